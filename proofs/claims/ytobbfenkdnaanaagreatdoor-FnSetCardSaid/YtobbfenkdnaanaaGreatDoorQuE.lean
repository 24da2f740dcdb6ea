/- strconv.AppendQuote into a buffer's own spare room, by contract. -/
import Derived.Test.YtobbfenkdnaanaaGreatDoorQuD
import Derived.Test.YtobbfenkdnaanaaGreatDoorBuC
set_option linter.unusedVariables false
set_option linter.unusedSimpArgs false
namespace Go.Proofs.YtobbfenkdnaanaaGreatDoor
open Go.RowKit Go.Proofs

theorem intCells_length (l : List Int) : (Lib.intCells l).length = l.length := by simp [Lib.intCells]
theorem intCells_one (l : List Int) : ∀ v ∈ Lib.intCells l, v.oneCell' = true := by
  intro v hv
  obtain ⟨x, _, rfl⟩ := List.mem_map.1 hv
  rfl
theorem kept_row {w w' : World} {may : MemPlace → Prop} (h : w.keptBut w' may) {g : Nat} {cur : Array Value} {tg : TypeId} {fz : Nat × Nat} (hg : w.heap[g]? = some (.cells cur tg fz)) :
    ∃ cur', w'.heap[g]? = some (.cells cur' tg fz) ∧ cur'.size = cur.size ∧ ∀ j, ¬ may (.cell g j) → cur'[j]? = cur[j]? := by
  have h1 := h.2.2 g (Lib.lt_of_heap hg)
  rw [hg] at h1
  cases hw : w'.heap[g]? with
  | none => rw [hw] at h1; cases h1
  | some o =>
    rw [hw] at h1
    cases o with
    | cells c t f =>
      obtain ⟨rfl, rfl, h3, h4⟩ := h1
      exact ⟨c, rfl, h3, h4⟩
    | _ => cases h1
theorem after_quote {K : UCtx} {v' : Value} {n : Nat} {xs : List Value} {w' : World} (h : UBuf K 5 v' n xs w') (hn : 0 < n) :
    ∃ x o C', v' = .slice (some ⟨x, o, none⟩) n C' ∧ (∀ j v, xs[j]? = some v → w'.cell? ((⟨x, o, none⟩ : Addr).add j) = some v) ∧ (x = K.g ∨ K.W.heap.size ≤ x) ∧ x < w'.heap.size := by
  have hxl := h.len
  obtain ⟨_, r, hU⟩ := h
  have fin : ∀ x o, (∀ j, j < n → w'.cell? ⟨x, o + j, none⟩ = xs[j]?) → (∀ j v, xs[j]? = some v → w'.cell? ((⟨x, o, none⟩ : Addr).add j) = some v) ∧ x < w'.heap.size := fun x o hc => by
    have h1 : ∀ j v, xs[j]? = some v → w'.cell? ((⟨x, o, none⟩ : Addr).add j) = some v := fun j v hj => by
      rw [Addr.add_lit, hc j (by have := (List.getElem?_eq_some_iff.1 hj).1; omega)]
      exact hj
    refine ⟨h1, ?_⟩
    have h2 := h1 0 (xs[0]'(by omega)) (List.getElem?_eq_getElem (by omega))
    rw [Addr.add_lit] at h2
    exact World.block_lt_of_cell? _ _ h2
  rcases hU.val with ⟨hle, hv, hr⟩ | ⟨_, g, c', hv, ho⟩
  · have hC : 0 < K.C := by omega
    have := fin K.g K.l (fun j hj => by
      have := hU.inArray K.came hC hr j (by omega)
      simpa using this)
    exact ⟨K.g, K.l, K.C, by rw [hv, K.came.addr hC, Nat.zero_add], this.1, .inl rfl, this.2⟩
  · have := fin g 0 (fun j hj => by
      rw [Nat.zero_add]
      have := ho.holds j (by omega)
      simpa using this)
    exact ⟨g, 0, c', by rw [hv, Nat.zero_add], this.1, .inr ho.new, this.2⟩
theorem buf_after {K : UCtx} {v' : Value} {n : Nat} {xs : List Value} {w' : World} (h : UBuf K 5 v' n xs w') {B b g cap : Nat} {bs : List Value} (hI : BufIs B b g cap bs K.W) (hBg : B ≤ K.g) (hBs : B ≤ K.W.heap.size)
    (hc : (K.g = g ∧ K.l = bs.length) ∨ (K.g ≠ b ∧ K.g ≠ g)) : BufIs B b g cap bs w' ∧ Below B K.W w' := by
  obtain ⟨ht, r, hU⟩ := h
  obtain ⟨lr, hb⟩ := hI.cell
  obtain ⟨cur, tg, hg, hcs, htk⟩ := hI.row
  have hgb := hI.ne
  have hb' : w'.heap[b]? = K.W.heap[b]? := hU.kept.block (Lib.lt_of_heap hb) (by
    rintro p ⟨j, _, rfl⟩ he
    have he' : K.g = b := he
    rcases hc with ⟨h1, _⟩ | ⟨h1, _⟩
    · exact hgb (h1 ▸ he')
    · exact h1 he')
  obtain ⟨cur', hg', hs', hk'⟩ := kept_row hU.kept hg
  have htk' : cur'.toList.take bs.length = cur.toList.take bs.length := by
    apply List.ext_getElem?
    intro j
    rw [List.getElem?_take, List.getElem?_take]
    split
    · rename_i hj
      rw [Array.getElem?_toList, Array.getElem?_toList]
      refine hk' j ?_
      rintro ⟨i, _, he⟩
      simp only [MemPlace.cell.injEq] at he
      rcases hc with ⟨h1, h2⟩ | ⟨_, h2⟩
      · omega
      · exact h2 he.1.symm
    · rfl
  refine ⟨⟨hI.hB, hI.hg, hI.ne, ⟨lr, hb'.trans hb⟩, ⟨cur', tg, hg', by omega, ?_⟩, hI.le, hI.max, hI.one⟩, ⟨hU.kept.1, ht, hU.kept.2.1, hU.kept.size, fun k hk => hU.kept.block (by omega) ?_⟩⟩
  · exact htk'.trans htk
  · rintro p ⟨j, _, rfl⟩ he
    have he' : K.g = k := he
    omega

set_option maxHeartbeats 1600000 in
set_option maxRecDepth 100000 in
theorem appendQuote_calls (T : Lib.PrintTabs) (W0 w : World) (b g cap : Nat) (bs : List Value) (ao : Option Addr) (s : ByteArray) (h : BufIs W0.heap.size b g cap bs w) (hao : 0 < cap - bs.length → ao = some ⟨g, bs.length, none⟩)
    (hlen : 10 * s.size + 12 ≤ 140737488355328) (hb0 : Below W0.heap.size W0 w) (hT : Lib.PrintTabsAt 8 9 10 11 T W0) (hU : Lib.Utf8Tabs 0 1 W0) :
    Calls Tryz.prog 150 #[.slice ao 0 (cap - bs.length), .string s] w fun e w' => ∃ x o C, e = .returned (.slice (some ⟨x, o, none⟩) (Lib.quoteZ T s).length C) ∧
      Aside0 (∀ j v, (Lib.intCells (Lib.quoteZ T s))[j]? = some v → w'.cell? ((⟨x, o, none⟩ : Addr).add j) = some v) ∧ x ≠ b ∧ x < w'.heap.size ∧ BufIs W0.heap.size b g cap bs w' ∧ Below W0.heap.size w w' := by
  have hq0 : 0 < (Lib.quoteZ T s).length := by simp [Lib.quoteZ]
  obtain ⟨lr, hbk⟩ := h.cell
  obtain ⟨cur, tg, hgk, hcs, htk⟩ := h.row
  have hbl := Lib.lt_of_heap hbk
  have hgl := Lib.lt_of_heap hgk
  have hle := h.le
  have hmx := h.max
  unfold maxLen at hmx
  by_cases hroom : s.size ≤ cap - bs.length
  · have hcame : Came w 1 ao g bs.length 0 (cap - bs.length) [] := by
      refine ⟨Nat.zero_le _, hao, fun _ => hgl, rfl, fun j u hj => (by cases j <;> cases hj), fun j hj => ⟨?_, Lib.frozen_of_heap hgk _⟩⟩
      rw [Lib.cell_of_heap hgk, Array.getElem?_eq_getElem (by omega)]
      rfl
    let K : UCtx := ⟨W0, w, ao, g, bs.length, cap - bs.length, hb0, h.hg, hcame⟩
    have hQ := quoted_room T K s hroom (by show cap - bs.length ≤ _; omega) hlen hT hU
    have HQ := Aside0.mk (show ∀ v' w', UBuf K 5 v' (Lib.quoteZ T s).length (Lib.intCells (Lib.quoteZ T s)) w' → ∃ x o C, v' = .slice (some ⟨x, o, none⟩) (Lib.quoteZ T s).length C ∧
        Aside0 (∀ j v, (Lib.intCells (Lib.quoteZ T s))[j]? = some v → w'.cell? ((⟨x, o, none⟩ : Addr).add j) = some v) ∧ x ≠ b ∧ x < w'.heap.size ∧ BufIs W0.heap.size b g cap bs w' ∧ Below W0.heap.size w w' from fun v' w' hu => by
      obtain ⟨x, o, C, h1, h2, h3, h4⟩ := after_quote hu hq0
      have h5 := buf_after (K := K) hu (B := W0.heap.size) h h.hg hb0.size (.inl ⟨rfl, rfl⟩)
      refine ⟨x, o, C, h1, ⟨h2⟩, ?_, h4, h5.1, h5.2⟩
      rcases h3 with rfl | h3
      · exact h.ne
      · have : w.heap.size ≤ x := h3
        omega)
    have hQ' : Calls Tryz.prog 206 #[.slice ao 0 (cap - bs.length), .string s, .int .u8 34, .bool false, .bool false] w fun e w' => ∃ v', e = .returned v' ∧ UBuf K 5 v' (Lib.quoteZ T s).length (Lib.intCells (Lib.quoteZ T s)) w' := hQ
    clear hQ
    go_enter Tryz.func150, Tryz.ntmps150
    go_wp2_with fail
    refine hQ'.mono ?_
    rintro e w1 ⟨v', rfl, hu⟩
    obtain ⟨x, o, C, rfl, h2, h3, h4, h5, h6⟩ := HQ.out v' w1 hu
    have HH := Aside0.mk (And.intro h2 (And.intro h3 (And.intro h4 (And.intro h5 h6))))
    clear hu h2 h3 h4 h5 h6
    go_wp2
    go_ret
    exact ⟨x, o, C, rfl, HH.out⟩
  · have hQ' := quoted_none T W0 w ao (cap - bs.length) s (by omega) hlen hb0 hT hU
    have HQ := Aside0.mk (show ∀ K v' w', K.W0 = W0 → K.g = w.heap.size → Below w.heap.size w K.W → UBuf K 5 v' (Lib.quoteZ T s).length (Lib.intCells (Lib.quoteZ T s)) w' → ∃ x o C, v' = .slice (some ⟨x, o, none⟩) (Lib.quoteZ T s).length C ∧
        Aside0 (∀ j v, (Lib.intCells (Lib.quoteZ T s))[j]? = some v → w'.cell? ((⟨x, o, none⟩ : Addr).add j) = some v) ∧ x ≠ b ∧ x < w'.heap.size ∧ BufIs W0.heap.size b g cap bs w' ∧ Below W0.heap.size w w' from fun K v' w' hK0 hKg hKb hu => by
      obtain ⟨x, o, C, h1, h2, h3, h4⟩ := after_quote hu hq0
      have hI' : BufIs W0.heap.size b g cap bs K.W := ⟨h.hB, h.hg, h.ne, ⟨lr, (hKb.block b hbl).trans hbk⟩, ⟨cur, tg, (hKb.block g hgl).trans hgk, hcs, htk⟩, h.le, h.max, h.one⟩
      have h5 := buf_after (K := K) hu (B := W0.heap.size) hI' (by rw [hKg]; exact hb0.size) (Nat.le_trans hb0.size hKb.size) (.inr ⟨by omega, by omega⟩)
      refine ⟨x, o, C, h1, ⟨h2⟩, ?_, h4, h5.1, (hKb.mono hb0.size).trans h5.2⟩
      rcases h3 with rfl | h3
      · omega
      · have := hKb.size
        omega)
    go_enter Tryz.func150, Tryz.ntmps150
    go_wp2_with fail
    refine hQ'.mono ?_
    rintro e w1 ⟨v', rfl, ⟨K, hK0, hKg, hKb, hu⟩⟩
    obtain ⟨x, o, C, rfl, h2, h3, h4, h5, h6⟩ := HQ.out K v' w1 hK0 hKg hKb hu
    have HH := Aside0.mk (And.intro h2 (And.intro h3 (And.intro h4 (And.intro h5 h6))))
    clear hu h2 h3 h4 h5 h6 hK0 hKg hKb
    go_wp2
    go_ret
    exact ⟨x, o, C, rfl, HH.out⟩
end Go.Proofs.YtobbfenkdnaanaaGreatDoor
