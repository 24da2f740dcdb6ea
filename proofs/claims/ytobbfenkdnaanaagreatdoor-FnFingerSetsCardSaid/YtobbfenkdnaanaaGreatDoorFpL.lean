/- The law FnFingerSets, walked. -/
import Derived.Test.YtobbfenkdnaanaaGreatDoorFpE
import Derived.Test.YtobbfenkdnaanaaGreatDoorFpF
import Derived.Test.YtobbfenkdnaanaaGreatDoorDurF
import Derived.Deep.DeepCutAuto
import Derived.Deep.Cut
import Derived.Deep.CutRange
import Derived.Deep.QuietTactic
import Derived.BigQuiet
import Derived.Deep.RegionLaw
import Derived.Deep.AppendLies
set_option linter.unusedVariables false
set_option linter.unusedSimpArgs false
namespace Go.Proofs.YtobbfenkdnaanaaGreatDoor
open Go.RowKit Go.Maps Go.WideMaps Go.Sort

/-- The numbers of a list that are in another one, each once. -/
def bothU (lb l : List Int) : List Int := l.foldl (fun acc x => if x ∈ lb then insU acc x else acc) []
theorem bothU_snoc (lb l : List Int) (x : Int) : bothU lb (l ++ [x]) = if x ∈ lb then insU (bothU lb l) x else bothU lb l := by
  unfold bothU; rw [List.foldl_append]; rfl
theorem foldl_bothU (lb : List Int) : ∀ (l acc : List Int), acc.Nodup → (l.foldl (fun acc x => if x ∈ lb then insU acc x else acc) acc).Nodup ∧ (l.foldl (fun acc x => if x ∈ lb then insU acc x else acc) acc).length ≤ acc.length + l.length ∧
    ∀ x, x ∈ l.foldl (fun acc x => if x ∈ lb then insU acc x else acc) acc ↔ x ∈ acc ∨ (x ∈ l ∧ x ∈ lb)
  | [], acc, h => ⟨h, by simp, fun x => by simp⟩
  | y :: t, acc, h => by
    rw [List.foldl_cons]
    by_cases hy : y ∈ lb
    · rw [if_pos hy]
      obtain ⟨h1, h2, h3⟩ := foldl_bothU lb t (insU acc y) (insU_nodup y h)
      refine ⟨h1, by have := (insU_len acc y).2; rw [List.length_cons]; omega, fun x => ?_⟩
      rw [h3, insU_mem, List.mem_cons]
      constructor
      · rintro ((h | rfl) | h)
        · exact .inl h
        · exact .inr ⟨.inl rfl, hy⟩
        · exact .inr ⟨.inr h.1, h.2⟩
      · rintro (h | ⟨rfl | h, h'⟩)
        · exact .inl (.inl h)
        · exact .inl (.inr rfl)
        · exact .inr ⟨h, h'⟩
    · rw [if_neg hy]
      obtain ⟨h1, h2, h3⟩ := foldl_bothU lb t acc h
      refine ⟨h1, by rw [List.length_cons]; omega, fun x => ?_⟩
      rw [h3, List.mem_cons]
      constructor
      · rintro (h | h)
        · exact .inl h
        · exact .inr ⟨.inr h.1, h.2⟩
      · rintro (h | ⟨rfl | h, h'⟩)
        · exact .inl h
        · exact absurd h' hy
        · exact .inr ⟨h, h'⟩
theorem bothU_once (lb l : List Int) : (bothU lb l).Nodup := (foldl_bothU lb l [] List.nodup_nil).1
theorem bothU_len (lb l : List Int) : (bothU lb l).length ≤ l.length := by have := (foldl_bothU lb l [] List.nodup_nil).2.1; unfold bothU; simpa using this
theorem bothU_mem (lb l : List Int) (x : Int) : x ∈ bothU lb l ↔ x ∈ l ∧ x ∈ lb := by unfold bothU; rw [(foldl_bothU lb l [] List.nodup_nil).2.2]; simp

theorem has_yes (a : Option Addr) (cap : Nat) (l : List Int) (x : Int) (w : World) (hl : Nums w a l) (hm : l.length ≤ 1000000) (h : x ∈ l) : Calls Tryz.prog 22 #[.slice a l.length cap, .int .u64 x] w fun e w' => e = .returned (.bool true) ∧ w' = w := by
  have h1 := has_calls a cap l x w hl hm
  rwa [decide_eq_true h] at h1
theorem has_no (a : Option Addr) (cap : Nat) (l : List Int) (x : Int) (w : World) (hl : Nums w a l) (hm : l.length ≤ 1000000) (h : x ∉ l) : Calls Tryz.prog 22 #[.slice a l.length cap, .int .u64 x] w fun e w' => e = .returned (.bool false) ∧ w' = w := by
  have h1 := has_calls a cap l x w hl hm
  rwa [decide_eq_false h] at h1

/-- Whether all of a list's numbers are in another one. -/
def allU (l lb : List Int) : Bool := l.all fun y => decide (y ∈ lb)
theorem allU_snoc (l lb : List Int) (x : Int) : allU (l ++ [x]) lb = (allU l lb && decide (x ∈ lb)) := by unfold allU; rw [List.all_append]; simp
theorem allU_dec (la lb : List Int) : (allU la lb && allU lb la) = decide ((∀ y ∈ la, y ∈ lb) ∧ ∀ y ∈ lb, y ∈ la) := by
  rw [Bool.eq_iff_iff]
  simp [allU]

/-- The world in the law's loops: 'both' lies in its box. -/
structure LawAt (w : World) (w' : World) (v : Value) (l : List Int) : Prop where
  below : Below w.heap.size w w'
  lt : w.heap.size < w'.heap.size
  c : w'.cell? ⟨w.heap.size, 0, none⟩ = some v
  f : w'.frozen? ⟨w.heap.size, 0, none⟩ = false
  row : RowU w' (w.heap.size + 1) v l
theorem LawAt.drewN {w w' : World} {v : Value} {l : List Int} (h : LawAt w w' v l) (q : Nat) : LawAt w (w'.drewN q) v l :=
  ⟨below_drewN h.below q, h.lt, h.c, h.f, h.row⟩
theorem RowU.next {w w' : World} {base : Nat} {v : Value} {l : List Int} (h : RowU w base v l) (hb : Below w.heap.size w w') : RowU w' base v l := by
  obtain ⟨h1, h2⟩ := h
  refine ⟨h1, ?_⟩
  rcases h2 with h2 | ⟨g, cap, cur, hv, hbase, hg, h3⟩
  · exact .inl h2
  · exact .inr ⟨g, cap, cur, hv, hbase, (hb.block g (Array.getElem?_eq_some_iff.1 hg).1).trans hg, h3⟩
theorem LawAt.next {w w1 w2 : World} {v : Value} {l : List Int} (h : LawAt w w1 v l) (hb : Below w1.heap.size w1 w2) : LawAt w w2 v l :=
  ⟨below_step h.below hb, Nat.lt_of_lt_of_le h.lt hb.size, (hb.cell (p := ⟨w.heap.size, 0, none⟩) h.lt).trans h.c, (hb.frozen (p := ⟨w.heap.size, 0, none⟩) h.lt).trans h.f, h.row.next hb⟩
theorem LawAt.sorted {w w1 w2 : World} {v : Value} {l d : List Int} (h : LawAt w w1 v l) (hg : w1.grownBy w2 v.ownBlock) (hr : RowU w2 (w.heap.size + 1) v d) : LawAt w w2 v d := by
  have ne : some w.heap.size ≠ v.ownBlock := fun e => by have := (World.ownsRow.lt h.row _ e.symm).1; omega
  exact ⟨h.below.grown hg h.below.size (fun k hk => by have := (World.ownsRow.lt h.row _ hk).1; omega), Nat.lt_of_lt_of_le h.lt hg.size, (hg.cell_far ⟨w.heap.size, 0, none⟩ h.lt ne).trans h.c, (hg.frozen_far ⟨w.heap.size, 0, none⟩ h.lt ne).trans h.f, hr⟩

theorem LawAt.box {w w1 w2 : World} {v : Value} {l : List Int} (h : LawAt w w1 v l) (hg : w1.grownBy w2 v.ownBlock) : w2.cell? ⟨w.heap.size, 0, none⟩ = some v ∧ w2.frozen? ⟨w.heap.size, 0, none⟩ = false ∧ Below w.heap.size w w2 ∧ w.heap.size < w2.heap.size := by
  have ne : some w.heap.size ≠ v.ownBlock := fun e => by have := (World.ownsRow.lt h.row _ e.symm).1; omega
  exact ⟨(hg.cell_far ⟨w.heap.size, 0, none⟩ h.lt ne).trans h.c, (hg.frozen_far ⟨w.heap.size, 0, none⟩ h.lt ne).trans h.f, h.below.grown hg h.below.size (fun k hk => by have := (World.ownsRow.lt h.row _ hk).1; omega), Nat.lt_of_lt_of_le h.lt hg.size⟩
theorem LawAt.put {w w2 : World} {u v : Value} {l : List Int} (hc : w2.cell? ⟨w.heap.size, 0, none⟩ = some u) (hf : w2.frozen? ⟨w.heap.size, 0, none⟩ = false) (hb : Below w.heap.size w w2) (hlt : w.heap.size < w2.heap.size) (hr : RowU w2 (w.heap.size + 1) v l) :
    LawAt w (w2.setCell ⟨w.heap.size, 0, none⟩ v) v l := by
  refine ⟨hb.setCell (p := ⟨w.heap.size, 0, none⟩) (Nat.le_refl _) v, by simp [World.setCell]; exact hlt, World.cell?_setCell_same _ _ _ hc, by rw [World.frozen?_setCell]; exact hf, ?_⟩
  refine World.ownsRow.kept hr (grownBy_setCell w2 ⟨w.heap.size, 0, none⟩ v) (Or.inr fun e => ?_)
  have := (World.ownsRow.lt hr _ e).1
  simp at this
  omega

set_option maxHeartbeats 4000000 in
set_option maxRecDepth 100000 in
theorem fingerSetsLaw_calls (a a' : Option Addr) (cap cap' : Nat) (la lb : List Int) (w : World) (hla : Nums w a la) (hlb : Nums w a' lb) (hwa : ∀ x ∈ la, In64 x) (hwb : ∀ x ∈ lb, In64 x)
    (hma : la.length ≤ 9223372036854775807) (hmb : lb.length ≤ 9223372036854775807) (hg : Glob w) :
    Calls Tryz.prog 5 #[.slice a la.length cap, .slice a' lb.length cap'] w fun e w' => e = .returned (.bool true) ∧ Below w.heap.size w w' := by
  have HLA := Aside0.mk hla
  have HLB := Aside0.mk hlb
  have HWI := Aside0.mk (And.intro hwa hwb)
  have HG := Aside0.mk hg
  clear hla hlb hwa hwb hg
  by_cases h1 : 2147483647 < la.length
  · have d1 : decide (2147483647 < (la.length : Int)) = true := decide_eq_true (by omega)
    clear h1
    go_enter Tryz.func5, Tryz.ntmps5
    go_wp2
    go_ret
    exact ⟨rfl, Below.refl _ _⟩
  have d1 : decide (2147483647 < (la.length : Int)) = false := decide_eq_false (by omega)
  by_cases h2 : 2147483647 < lb.length
  · have d2 : decide (2147483647 < (lb.length : Int)) = true := decide_eq_true (by omega)
    clear h1 h2
    go_enter Tryz.func5, Tryz.ntmps5
    go_wp2
    go_ret
    exact ⟨rfl, Below.refl _ _⟩
  have d2 : decide (2147483647 < (lb.length : Int)) = false := decide_eq_false (by omega)
  by_cases h3 : 20 < la.length
  · have d3 : decide (20 < (la.length : Int)) = true := decide_eq_true (by omega)
    clear h1 h2 h3
    go_enter Tryz.func5, Tryz.ntmps5
    go_wp2_with (go_at_call 12; refine (awake_calls _ HG.out).mono ?_; rintro e w6 ⟨rfl, hb6⟩; have HB6 := Aside0.mk hb6; clear hb6)
    go_ret
    exact ⟨rfl, HB6.out⟩
  have d3 : decide (20 < (la.length : Int)) = false := decide_eq_false (by omega)
  by_cases h4 : 20 < lb.length
  · have d4 : decide (20 < (lb.length : Int)) = true := decide_eq_true (by omega)
    clear h1 h2 h3 h4
    go_enter Tryz.func5, Tryz.ntmps5
    go_wp2_with (go_at_call 12; refine (awake_calls _ HG.out).mono ?_; rintro e w6 ⟨rfl, hb6⟩; have HB6 := Aside0.mk hb6; clear hb6)
    go_ret
    exact ⟨rfl, HB6.out⟩
  have d4 : decide (20 < (lb.length : Int)) = false := decide_eq_false (by omega)
  have ha20 : la.length ≤ 20 := by omega
  have hb20 : lb.length ≤ 20 := by omega
  obtain ⟨i0, hi, hz0, hz1, hz2⟩ := info_parts infoU
  have HI := Aside0.mk (And.intro hi (And.intro hz0 (And.intro hz1 hz2)))
  have HS0 := Aside0.mk (show LawAt w (w.alloc (Obj.cells #[Value.slice none 0 0] 39)) (.slice none 0 0) [] from
    ⟨below_alloc (Below.refl _ _) _, by simp, by simp [go_sem], by simp [go_sem], ⟨rfl, .inl ⟨rfl, rfl⟩⟩⟩)
  clear h1 h2 h3 h4 hi hz0 hz1 hz2 hma hmb
  go_enter Tryz.func5, Tryz.ntmps5
  go_wp2_with fail
  go_loopg [7, 8] (la.length + 1) (fun g v7 v8 w' => ∃ (i : Nat) (sm : Bool) (v : Value), v7 = .bool sm ∧ v8 = .int .i64 (i : Int) ∧ i + g = la.length + 1 ∧ i ≤ la.length ∧ Aside0 (sm = allU (la.take i) lb) ∧ Aside0 (LawAt w w' v (bothU lb (la.take i))))
  case atStart => exact ⟨0, true, _, rfl, rfl, by omega, by omega, ⟨by simp [allU]⟩, HS0⟩
  case round =>
    obtain ⟨i, sm, v, rfl, rfl, hig, hile, HSM, HAT⟩ := hrel
    by_cases hlt : i < la.length
    · obtain ⟨g1, rfl⟩ : ∃ m, gk = m + 1 := ⟨gk - 1, by omega⟩
      rcases HLA.out.next HAT.out.below with h | ⟨b, off, ha, hblt, hc⟩
      · rw [h] at hlt; simp at hlt
      subst ha
      have c0 := hc i hlt
      obtain ⟨x, hx⟩ : ∃ x, la[i]'hlt = x := ⟨_, rfl⟩
      rw [hx] at c0
      obtain ⟨bl, hbl⟩ : ∃ bl, bothU lb (la.take i) = bl := ⟨_, rfl⟩
      rw [hbl] at HAT
      have hbll : bl.length ≤ 20 := by rw [← hbl]; have := bothU_len lb (la.take i); rw [List.length_take] at this; omega
      have HX := Aside0.mk (And.intro hx hbl)
      obtain ⟨a0, c9, hv9, hnum⟩ := HAT.out.row.nums
      subst hv9
      have HNB := Aside0.mk hnum
      have HLW := Aside0.mk (HLB.out.next HAT.out.below)
      have c6 := HAT.out.c
      have hblw : b < w.heap.size := by
        rcases HLA.out with h | ⟨b', off', ha', hb', _⟩
        · rw [h] at hlt; simp at hlt
        · cases ha'; exact hb'
      have HBLW := Aside0.mk hblw
      clear hx hbl hc hblt hnum hblw
      go_wp2_with fail
      go_cut [52] (fun s52 wx => ∃ g : Bool, s52 = .bool g ∧ Aside0 (g = (decide (x ∈ lb) && !decide (x ∈ bl))) ∧ ∃ q, wx = wr.drewN q)
      case first =>
        by_cases hxb : x ∈ lb
        · by_cases hxl : x ∈ bl
          · have e1 := Aside0.mk hxb
            have e2 := Aside0.mk hxl
            clear hxb hxl
            go_quiet ((first
              | (go_at_call_of 22 (Value.slice a' lb.length cap'); exact Calls.quiet_of_same (has_yes a' cap' lb x _ HLW.out (by omega) e1.out))
              | (go_at_call_of 22 (Value.slice a0 bl.length c9); exact Calls.quiet_of_same (has_yes a0 c9 bl x _ HNB.out (by omega) e2.out))))
            go_wp2_with fail
            go_meet
            exact ⟨false, rfl, ⟨by rw [decide_eq_true e1.out, decide_eq_true e2.out]; rfl⟩, nq, rfl⟩
          · have e1 := Aside0.mk hxb
            have e2 := Aside0.mk hxl
            clear hxb hxl
            go_quiet ((first
              | (go_at_call_of 22 (Value.slice a' lb.length cap'); exact Calls.quiet_of_same (has_yes a' cap' lb x _ HLW.out (by omega) e1.out))
              | (go_at_call_of 22 (Value.slice a0 bl.length c9); exact Calls.quiet_of_same (has_no a0 c9 bl x _ HNB.out (by omega) e2.out))))
            go_wp2_with fail
            go_meet
            exact ⟨true, rfl, ⟨by rw [decide_eq_true e1.out, decide_eq_false e2.out]; rfl⟩, nq, rfl⟩
        · have e1 := Aside0.mk hxb
          clear hxb
          go_quiet ((first
              | (go_at_call_of 22 (Value.slice a' lb.length cap'); exact Calls.quiet_of_same (has_no a' cap' lb x _ HLW.out (by omega) e1.out))))
          go_wp2_with fail
          go_meet
          exact ⟨false, rfl, ⟨by rw [decide_eq_false e1.out]; rfl⟩, nq, rfl⟩
      case rest =>
        obtain ⟨g, rfl, hg0, q, rfl⟩ := hcut
        have HG0 := Aside0.mk hg0.out
        have HAQ := Aside0.mk (HAT.out.drewN q)
        obtain ⟨w2, hw2⟩ : ∃ w2, w2 = wr.drewN q := ⟨_, rfl⟩
        rw [← hw2] at HAQ ⊢
        have c0 : w2.cell? ⟨b, off + i, none⟩ = some (.int .u64 x) := by rw [hw2]; exact c0
        clear hw2 hg0 c6
        go_upto_if 52 with fail
        go_cut [] (fun wx => ∃ v' : Value, Aside0 (LawAt w wx v' (bothU lb (la.take (i + 1)))))
        case first =>
          have HT := Aside0.mk (show bothU lb (la.take (i + 1)) = if x ∈ lb then insU bl x else bl from by rw [List.take_succ_eq_append_getElem hlt, HX.out.1, bothU_snoc, HX.out.2])
          cases g with
          | false =>
            go_wp2_with fail
            go_meet
            refine ⟨.slice a0 bl.length c9, ⟨?_⟩⟩
            rw [HT.out]
            have h := HG0.out
            by_cases hxb : x ∈ lb
            · by_cases hxl : x ∈ bl
              · rw [if_pos hxb]; unfold insU; rw [if_pos hxl]; exact HAQ.out
              · rw [decide_eq_true hxb, decide_eq_false hxl] at h; simp at h
            · rw [if_neg hxb]; exact HAQ.out
          | true =>
            have c6 := HAQ.out.c
            have f6 := HAQ.out.f
            have l6 := HAQ.out.lt
            have HA9 := Aside0.mk (HAQ.out.next (below_alloc (Below.refl w2.heap.size w2) (Obj.cells #[Value.int .u64 x] 25)))
            have HXX := Aside0.mk (show x ∈ lb ∧ x ∉ bl from by
              have h := HG0.out
              by_cases hxb : x ∈ lb
              · by_cases hxl : x ∈ bl
                · rw [decide_eq_true hxb, decide_eq_true hxl] at h; simp at h
                · exact ⟨hxb, hxl⟩
              · rw [decide_eq_false hxb] at h; simp at h)
            go_wp2_with fail
            go_region_law ((refine step_append_lies _ rfl _ _ 39 rfl (w.heap.size + 1) 25 i0 (.int .u64 0) 1 8 Tryz.underlying39 HI.out.1 HI.out.2.1 HI.out.2.2.1 HI.out.2.2.2 rfl (by decide) _ _ _ rfl (World.ownsRow.alloc HAQ.out.row _) ⟨w2.heap.size, 0, none⟩ 1 1 [.int .u64 x] rfl rfl (cell_one_new _ _ _) (by simp [Value.oneCell']) (by decide) (by unfold maxLen; omega) (by omega) (by simp; omega) _ rfl ?_; intro g5 cap5 w10 hown5 hg5 hat5 hlt5; have hg5' : (w2.alloc (Obj.cells #[Value.int .u64 x] 25)).grownBy w10 (Value.slice a0 bl.length c9).ownBlock := (⟨hg5.os, hg5.tape, hg5.output, hg5.size, hg5.block⟩); have HBX := Aside0.mk (HA9.out.box hg5'); have c10 := HBX.out.1; have f10 := HBX.out.2.1; have HOW := Aside0.mk (show RowU w10 (w.heap.size + 1) (.slice (some ⟨g5, 0, none⟩) (bl.length + 1) cap5) (bl ++ [x]) from by unfold RowU; rw [List.length_append, List.map_append]; exact hown5); clear hown5 hg5 hg5' hat5 hlt5))
            all_goals
              go_wp2_with fail
              go_meet
              refine ⟨.slice (some ⟨g5, 0, none⟩) (bl.length + 1) cap5, ⟨?_⟩⟩
              rw [HT.out, if_pos HXX.out.1]
              unfold insU
              rw [if_neg HXX.out.2]
              exact LawAt.put HBX.out.1 HBX.out.2.1 HBX.out.2.2.1 HBX.out.2.2.2 HOW.out
        case rest =>
          obtain ⟨v2, hat2⟩ := hcut
          have HA2 := Aside0.mk hat2.out
          have HLW2 := Aside0.mk (HLB.out.next hat2.out.below)
          have c0 : wc.cell? ⟨b, off + i, none⟩ = some (.int .u64 x) := by
            rcases HLA.out.next HA2.out.below with h | ⟨b', off', ha', hb', hc'⟩
            · rw [h] at hlt; simp at hlt
            · cases ha'
              rw [← HX.out.1]
              exact hc' i hlt
          have HSN := Aside0.mk (show allU (la.take (i + 1)) lb = (sm && decide (x ∈ lb)) from by
            rw [HSM.out, List.take_succ_eq_append_getElem hlt, HX.out.1, allU_snoc])
          clear hat2
          cases sm with
          | false =>
            go_wp2_with fail
            go_roundg g1
            case measure => omega
            case rel => exact ⟨i + 1, false, v2, rfl, by go_num, by omega, by omega, ⟨by rw [HSN.out]; rfl⟩, HA2⟩
          | true =>
            by_cases hxb : x ∈ lb
            · have e1 := Aside0.mk hxb
              clear hxb
              go_wp2_with (go_at_call 22; refine (has_yes a' cap' lb x _ HLW2.out (by omega) e1.out).mono ?_; rintro e w' ⟨rfl, rfl⟩)
              go_roundg g1
              case measure => omega
              case rel => exact ⟨i + 1, true, v2, rfl, by go_num, by omega, by omega, ⟨by rw [HSN.out, decide_eq_true e1.out]; rfl⟩, HA2⟩
            · have e1 := Aside0.mk hxb
              clear hxb
              go_wp2_with (go_at_call 22; refine (has_no a' cap' lb x _ HLW2.out (by omega) e1.out).mono ?_; rintro e w' ⟨rfl, rfl⟩)
              go_roundg g1
              case measure => omega
              case rel => exact ⟨i + 1, false, v2, rfl, by go_num, by omega, by omega, ⟨by rw [HSN.out, decide_eq_false e1.out]; rfl⟩, HA2⟩
    · have hie : i = la.length := by omega
      have HSE := Aside0.mk (show sm = (allU la lb && allU (lb.take 0) la) from by have h := HSM.out; rw [hie, List.take_length] at h; rw [h]; simp [allU])
      have HAE := Aside0.mk (show LawAt w wr v (bothU lb la) from by have h := HAT.out; rw [hie, List.take_length] at h; exact h)
      clear hig hile hie HSM HAT
      go_wp2_with fail
      go_loopg [7, 9] (lb.length + 1) (fun g v7 v9 w' => ∃ (j : Nat) (sm : Bool), v7 = .bool sm ∧ v9 = .int .i64 (j : Int) ∧ j + g = lb.length + 1 ∧ j ≤ lb.length ∧ Aside0 (sm = (allU la lb && allU (lb.take j) la)) ∧ Aside0 (LawAt w w' v (bothU lb la)))
      case atStart => exact ⟨0, sm, rfl, rfl, by omega, by omega, HSE, HAE⟩
      case round =>
        obtain ⟨j, sm, rfl, rfl, hjg, hjle, HSM, HAT⟩ := hrel
        by_cases hlt2 : j < lb.length
        · obtain ⟨g1, rfl⟩ : ∃ m, gk = m + 1 := ⟨gk - 1, by omega⟩
          rcases HLB.out.next HAT.out.below with h | ⟨b, off, ha, hblt, hc⟩
          · rw [h] at hlt2; simp at hlt2
          subst ha
          have c0 := hc j hlt2
          obtain ⟨x, hx⟩ : ∃ x, lb[j]'hlt2 = x := ⟨_, rfl⟩
          rw [hx] at c0
          have HLW2 := Aside0.mk (HLA.out.next HAT.out.below)
          have HSN := Aside0.mk (show (allU la lb && allU (lb.take (j + 1)) la) = (sm && decide (x ∈ la)) from by
            rw [HSM.out, List.take_succ_eq_append_getElem hlt2, hx, allU_snoc, Bool.and_assoc])
          clear hc hx hblt
          cases sm with
          | false =>
            go_wp2_with fail
            go_roundg g1
            case measure => omega
            case rel => exact ⟨j + 1, false, rfl, by go_num, by omega, by omega, ⟨by rw [HSN.out]; rfl⟩, HAT⟩
          | true =>
            by_cases hxb : x ∈ la
            · have e1 := Aside0.mk hxb
              clear hxb
              go_wp2_with (go_at_call 22; refine (has_yes a cap la x _ HLW2.out (by omega) e1.out).mono ?_; rintro e w' ⟨rfl, rfl⟩)
              go_roundg g1
              case measure => omega
              case rel => exact ⟨j + 1, true, rfl, by go_num, by omega, by omega, ⟨by rw [HSN.out, decide_eq_true e1.out]; rfl⟩, HAT⟩
            · have e1 := Aside0.mk hxb
              clear hxb
              go_wp2_with (go_at_call 22; refine (has_no a cap la x _ HLW2.out (by omega) e1.out).mono ?_; rintro e w' ⟨rfl, rfl⟩)
              go_roundg g1
              case measure => omega
              case rel => exact ⟨j + 1, false, rfl, by go_num, by omega, by omega, ⟨by rw [HSN.out, decide_eq_false e1.out]; rfl⟩, HAT⟩
        · have hje : j = lb.length := by omega
          obtain ⟨eb, heb⟩ : ∃ eb : Bool, eb = decide ((∀ y ∈ la, y ∈ lb) ∧ ∀ y ∈ lb, y ∈ la) := ⟨_, rfl⟩
          have hsm : sm = eb := by have h := HSM.out; rw [hje, List.take_length, allU_dec] at h; rw [h, heb]
          subst hsm
          have HEB := Aside0.mk heb
          have c6 := HAT.out.c
          clear hjg hjle hje HSM heb
          go_wp2_with fail
          refine (slice_u w.heap.size (w.heap.size + 1) v (bothU lb la) _ (by omega) HAT.out.row HAT.out.c (bothU_once lb la) (by have := bothU_len lb la; omega)).mono ?_
          rintro e w3 ⟨rfl, ds, hrd, hdl, hda, hdm, hg3⟩
          have HA3 := Aside0.mk (HAT.out.sorted hg3 hrd)
          have HDS := Aside0.mk (And.intro hda hdm)
          have HDL := Aside0.mk (show ds.length ≤ 20 by rw [hdl]; have := bothU_len lb la; omega)
          clear hrd hdl hda hdm hg3 c6
          go_wp2_with fail
          refine (fs_calls a a' cap cap' la lb _ (HLA.out.next HA3.out.below) (HLB.out.next HA3.out.below) ha20 hb20 HWI.out.1 HWI.out.2).mono ?_
          rintro e w4 ⟨v4, ds4, rfl, hnv, hda4, hdm4, hb4⟩
          have hdd : ds4 = ds := asc_ext hda4 HDS.out.1 fun x => by rw [hdm4, HDS.out.2, bothU_mem]
          subst hdd
          rw [← HEB.out]
          have HA4 := Aside0.mk (HA3.out.next hb4)
          obtain ⟨a4, c4, rfl, hn4⟩ := hnv
          have HN4 := Aside0.mk hn4
          obtain ⟨a5, c5, rfl, hn5⟩ := HA4.out.row.nums
          have HN5 := Aside0.mk hn5
          have c6 := HA4.out.c
          have q1 : (sm != sm) = false := by simp
          have q2 : ((ds4.length : Int) != (ds4.length : Int)) = false := by simp
          have hdl4 := HDL.out
          clear hda4 hdm4 hb4 hn4 hn5
          go_wp2_with fail
          go_loopg [12] (ds4.length + 1) (fun g v12 w' => ∃ k : Nat, v12 = .int .i64 (k : Int) ∧ k + g = ds4.length + 1 ∧ k ≤ ds4.length ∧ ∃ q, w' = w4.drewN q)
          case atStart => exact ⟨0, rfl, by omega, by omega, 0, rfl⟩
          case round =>
            obtain ⟨k, rfl, hkg, hkle, q, hw5⟩ := hrel
            have HAK := Aside0.mk (show LawAt w wr _ ds4 from by rw [hw5]; exact HA4.out.drewN q)
            have c7 := HAK.out.c
            by_cases hlk : k < ds4.length
            · obtain ⟨g1, rfl⟩ : ∃ m, gk = m + 1 := ⟨gk - 1, by omega⟩
              rcases HN4.out with h | ⟨b4, o4, ha4, _, hc4⟩
              · rw [h] at hlk; simp at hlk
              rcases HN5.out with h | ⟨b5, o5, ha5, _, hc5⟩
              · rw [h] at hlk; simp at hlk
              subst ha4 ha5
              obtain ⟨x, hx⟩ : ∃ x, ds4[k]'hlk = x := ⟨_, rfl⟩
              have m4 : wr.cell? ⟨b4, o4 + k, none⟩ = some (.int .u64 x) := by rw [hw5, ← hx]; exact hc4 k hlk
              have m5 : wr.cell? ⟨b5, o5 + k, none⟩ = some (.int .u64 x) := by rw [hw5, ← hx]; exact hc5 k hlk
              have q3 : (x != x) = false := by simp
              have HW5 := Aside0.mk hw5
              clear hc4 hc5 hx hw5
              go_wp2_with fail
              go_quiet (fail)
              go_wp2_with fail
              go_roundg g1
              case measure => omega
              case rel => exact ⟨k + 1, by go_num, by omega, by omega, q + nq, by rw [HW5.out, World.drewN_drewN]⟩
            · clear hw5
              go_wp2_with (go_at_call 12; refine (awake_calls _ (HG.out.next HAK.out.below)).mono ?_; rintro e w6 ⟨rfl, hb6⟩; have HB6 := Aside0.mk (below_step HAK.out.below hb6); clear hb6)
              go_ret
              exact ⟨rfl, HB6.out⟩
end Go.Proofs.YtobbfenkdnaanaaGreatDoor
