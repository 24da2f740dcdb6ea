/- Rows of numbers that a call owns, sorted; a list's numbers as a set: plain facts, and slices.Sort of none. -/
import Derived.Test.YtobbfenkdnaanaaGreatDoorSoG
import Derived.Test.YtobbfenkdnaanaaGreatDoorFpB
import Derived.Laws.AppendOwn
set_option linter.unusedVariables false
set_option linter.unusedSimpArgs false
namespace Go.Proofs.YtobbfenkdnaanaaGreatDoor
open Go.RowKit Go.Sort

/-- A list's numbers, each once. -/
def mkU (l : List Int) : List Int := l.foldl insU []
theorem mkU_snoc (l : List Int) (x : Int) : mkU (l ++ [x]) = insU (mkU l) x := by unfold mkU; rw [List.foldl_append]; rfl
theorem mkU_take {l : List Int} {i : Nat} (h : i < l.length) : mkU (l.take (i + 1)) = insU (mkU (l.take i)) (l[i]'h) := by
  rw [List.take_succ_eq_append_getElem h, mkU_snoc]
theorem foldl_insU_mem (l : List Int) : ∀ (acc : List Int) (x : Int), x ∈ l.foldl insU acc ↔ x ∈ acc ∨ x ∈ l := by
  induction l with
  | nil => intro acc x; simp
  | cons y t ih => intro acc x; rw [List.foldl_cons, ih, insU_mem, List.mem_cons]; exact ⟨fun h => by rcases h with (h | h) | h; exact .inl h; exact .inr (.inl h); exact .inr (.inr h), fun h => by rcases h with h | h | h; exact .inl (.inl h); exact .inl (.inr h); exact .inr h⟩
theorem mkU_mem (l : List Int) (x : Int) : x ∈ mkU l ↔ x ∈ l := by unfold mkU; rw [foldl_insU_mem]; simp
theorem foldl_insU_once (l : List Int) : ∀ acc : List Int, acc.Nodup → (l.foldl insU acc).Nodup ∧ (l.foldl insU acc).length ≤ acc.length + l.length := by
  induction l with
  | nil => intro acc h; exact ⟨h, by simp⟩
  | cons y t ih =>
    intro acc h
    rw [List.foldl_cons]
    have h1 := ih (insU acc y) (insU_nodup y h)
    have h2 := (insU_len acc y).2
    refine ⟨h1.1, ?_⟩
    rw [List.length_cons]
    omega
theorem mkU_once (l : List Int) : (mkU l).Nodup := (foldl_insU_once l [] List.nodup_nil).1
theorem mkU_len (l : List Int) : (mkU l).length ≤ l.length := by have := (foldl_insU_once l [] List.nodup_nil).2; unfold mkU; simpa using this

theorem sub_len : ∀ {d l : List Int}, d.Nodup → (∀ x ∈ d, x ∈ l) → d.length ≤ l.length
  | [], l, _, _ => Nat.zero_le _
  | x :: t, l, hn, hs => by
    rw [List.nodup_cons] at hn
    have hx : x ∈ l := hs x (List.mem_cons_self ..)
    have h1 : ∀ y ∈ t, y ∈ l.erase x := fun y hy => (List.mem_erase_of_ne (fun e => hn.1 (by rw [← e]; exact hy))).2 (hs y (List.mem_cons_of_mem _ hy))
    have h2 := sub_len hn.2 h1
    rw [List.length_erase_of_mem hx] at h2
    have h3 := List.length_pos_of_mem hx
    rw [List.length_cons]
    omega

/-- Whether two lists have the same numbers. -/
theorem eqU_mkU (la lb : List Int) : eqU (mkU la) (mkU lb) = decide ((∀ x ∈ la, x ∈ lb) ∧ (∀ x ∈ lb, x ∈ la)) := by
  unfold eqU
  refine decide_eq_decide.2 ⟨fun ⟨h1, h2⟩ => ?_, fun ⟨h1, h2⟩ => ⟨?_, fun x hx => (mkU_mem lb x).2 (h1 x ((mkU_mem la x).1 hx))⟩⟩
  · refine ⟨fun x hx => (mkU_mem lb x).1 (h2 x ((mkU_mem la x).2 hx)), fun x hx => ?_⟩
    refine Classical.byContradiction fun hn => ?_
    have hn' : x ∉ mkU la := fun h => hn ((mkU_mem la x).1 h)
    have := sub_len (d := x :: mkU la) (l := mkU lb) (List.nodup_cons.2 ⟨hn', mkU_once la⟩) (fun y hy => by
      rcases List.mem_cons.1 hy with rfl | hy
      · exact (mkU_mem lb y).2 hx
      · exact h2 y hy)
    rw [List.length_cons] at this
    omega
  · have a1 := sub_len (mkU_once la) (l := mkU lb) (fun x hx => (mkU_mem lb x).2 (h1 x ((mkU_mem la x).1 hx)))
    have a2 := sub_len (mkU_once lb) (l := mkU la) (fun x hx => (mkU_mem la x).2 (h2 x ((mkU_mem lb x).1 hx)))
    omega

/-- Two ascending lists without doubles that have the same numbers are one. -/
theorem asc_ext : ∀ {l d : List Int}, l.Pairwise (· < ·) → d.Pairwise (· < ·) → (∀ x, x ∈ l ↔ x ∈ d) → l = d
  | [], [], _, _, _ => rfl
  | [], y :: t, _, _, h => absurd ((h y).2 (List.mem_cons_self ..)) (by simp)
  | x :: t, [], _, _, h => absurd ((h x).1 (List.mem_cons_self ..)) (by simp)
  | x :: s, y :: t, hl, hd, h => by
    rw [List.pairwise_cons] at hl hd
    have exy : x = y := by
      have h1 := (h x).1 (List.mem_cons_self ..)
      have h2 := (h y).2 (List.mem_cons_self ..)
      rcases List.mem_cons.1 h1 with e | h1
      · exact e
      · rcases List.mem_cons.1 h2 with e | h2
        · exact e.symm
        · have := hd.1 x h1
          have := hl.1 y h2
          omega
    subst exy
    rw [asc_ext hl.2 hd.2 fun z => ?_]
    constructor
    · intro hz
      have h1 := hl.1 z hz
      rcases List.mem_cons.1 ((h z).1 (List.mem_cons_of_mem _ hz)) with e | h2
      · omega
      · exact h2
    · intro hz
      have h1 := hd.1 z hz
      rcases List.mem_cons.1 ((h z).2 (List.mem_cons_of_mem _ hz)) with e | h2
      · omega
      · exact h2

/-- A slice that a call owns, of these numbers. -/
def RowU (w : World) (base : Nat) (v : Value) (l : List Int) : Prop := w.ownsRow base 25 1 v l.length (l.map U64)

theorem rowU_holds {w : World} {base g cap : Nat} {l : List Int} (h : RowU w base (.slice (some ⟨g, 0, none⟩) l.length cap) l) : Holds U64 w g 0 l.toArray ∧ g < w.heap.size ∧ base ≤ g := by
  rcases h.2 with ⟨h0, _⟩ | ⟨g', cap', cur, hv, hbase, hb, h1, h2, h3, h4⟩
  · cases h0
  cases hv
  refine ⟨fun j hj => ?_, (Array.getElem?_eq_some_iff.1 hb).1, hbase⟩
  have hj' : j < l.length := by simpa using hj
  refine ⟨?_, by simp [World.frozen?, hb]⟩
  have e1 : (cur.toList.take (l.length * 1))[j]? = (l.map U64)[j]? := by rw [h4]
  rw [List.getElem?_take_of_lt (by omega)] at e1
  simp only [World.cell?, hb, Nat.zero_add]
  simp only [Option.isSome_none, Bool.false_eq_true, if_false]
  rw [← Array.getElem?_toList, e1]
  simp [hj']

/-- What is behind the sort of a row that a call owns. -/
theorem rowU_sorted {w w' : World} {base g cap : Nat} {l : List Int} {d : Array Int} (h : RowU w base (.slice (some ⟨g, 0, none⟩) l.length cap) l) (hg : GrowAt w g 0 d w') (hd : d.size = l.length) :
    RowU w' base (.slice (some ⟨g, 0, none⟩) l.length cap) d.toList ∧ w.grownBy w' (some g) := by
  rcases h.2 with ⟨h0, _⟩ | ⟨g', cap', cur, hv, hbase, hb, h1, h2, h3, h4⟩
  · cases h0
  cases hv
  obtain ⟨m, os, rfl⟩ := hg
  have hlt : g < w.heap.size := (Array.getElem?_eq_some_iff.1 hb).1
  have hb' : (grow (putRow U64 (Sort.ahead w m) g 0 d) os).heap[g]? = some (.cells (putCells U64 0 d cur) 25 (0, 0)) := by
    rw [heap_grow_old _ _ (by simpa using hlt)]
    simp [putRow, mapBlock, Sort.ahead, Array.getElem?_modify, hb, onCells]
  constructor
  · unfold RowU
    have hl : d.toList.length = l.length := by rw [← hd]; exact Array.length_toList
    rw [hl]
    refine ⟨by simp [hd], .inr ⟨g, cap, _, rfl, hbase, hb', h1, h2, by simp [putCells, h3], ?_⟩⟩
    apply List.ext_getElem?
    intro j
    by_cases hj : j < l.length
    · rw [List.getElem?_take_of_lt (by omega), Array.getElem?_toList]
      have hjc : j < cur.size := by omega
      have hjd : j < d.size := by omega
      simp [putCells, hj, hjc, hjd, getElem!_pos d j hjd]
    · rw [List.getElem?_take_eq_none (by omega), List.getElem?_eq_none (by simp; omega)]
  · refine ⟨rfl, rfl, rfl, by simp, fun k hk hne => ?_⟩
    rw [heap_grow_old _ _ (by simpa using hk)]
    have : g ≠ k := fun e => hne (by rw [e])
    simp [putRow, mapBlock, Sort.ahead, Array.getElem?_modify, this]

/-- slices.Sort of none. -/
theorem sort_none (w : World) : Calls Tryz.prog 73 #[.slice none 0 0] w fun e w' => e = .returned (.tuple #[]) ∧ w' = w := by
  have h1 : Calls Tryz.prog 185 #[.slice none 0 0, .int .i64 0, .int .i64 0] w fun e w' => e = .returned (.tuple #[]) ∧ w' = w := by
    go_enter Tryz.func185, Tryz.ntmps185
    go_wp2
    refine wp_loop_rounds 1 ?_
    rw [rounds_succ]
    go_wp2
    go_end0
    exact ⟨rfl, rfl⟩
  have h2 : Calls Tryz.prog 139 #[.slice none 0 0, .int .i64 0, .int .i64 0, .int .i64 0] w fun e w' => e = .returned (.tuple #[]) ∧ w' = w := by
    go_enter Tryz.func139, Tryz.ntmps139
    go_wp2
    refine wp_loop_rounds 1 ?_
    rw [rounds_succ]
    go_wp2_with (go_at_call 185; refine h1.mono ?_; rintro e w' ⟨rfl, rfl⟩)
    (try simp only [Exit.inBlock, Exit.then])
    refine bodyPost_ret (results_none rfl _ _ _) rfl ?_
    exact ⟨rfl, rfl⟩
  have hb := Tryz.bits_Len 0 w (by omega) (by omega)
  have hl : ((Lib.bitLen (0 : Int).toNat : Nat) : Int) = 0 := by decide
  rw [hl] at hb
  go_enter Tryz.func73, Tryz.ntmps73
  go_wp2_with (first | (go_at_call 68; refine hb.mono ?_; rintro e w' ⟨rfl, rfl⟩) | (go_at_call 139; refine h2.mono ?_; rintro e w' ⟨rfl, rfl⟩))
  go_end0
  exact ⟨rfl, rfl⟩

theorem sortedIn_asc {d : Array Int} (hn : Nod 0 d.size d) (hs : SortedIn ltInt 0 d.size d) : d.toList.Pairwise (· < ·) := by
  rw [List.pairwise_iff_getElem]
  intro i j hi hj hij
  simp only [Array.length_toList] at hi hj
  have h1 := hs i j (Nat.zero_le _) hij hj
  have h2 := hn i j (Nat.zero_le _) hi (Nat.zero_le _) hj (by omega)
  rw [getElem!_pos d i hi, getElem!_pos d j hj] at h1 h2
  simp only [ltInt, decide_eq_false_iff_not] at h1
  simp only [Array.getElem_toList]
  omega

theorem nod_of {l : List Int} (h : l.Nodup) : Nod 0 l.toArray.size l.toArray := by
  rw [nod_iff (Nat.le_refl _)]
  simpa using h

theorem mem_permIn {d d' : Array Int} (h : PermIn 0 d.size d d') (x : Int) : x ∈ d'.toList ↔ x ∈ d.toList := by
  have h1 := h.2.2
  rw [show d'.extract 0 d.size = d' by rw [← h.1]; exact Array.extract_size, Array.extract_size] at h1
  exact h1.mem_iff
end Go.Proofs.YtobbfenkdnaanaaGreatDoor
