/- Texts of labels told as numbers; a name put behind the names of an array's slice (plain, and one law). LabelSet.String, by contract. -/
import Derived.Test.YtobbfenkdnaanaaGreatDoorQuE
import Derived.Test.YtobbfenkdnaanaaGreatDoorFingA
import Derived.Test.YtobbfenkdnaanaaGreatDoorMetP
import Derived.Test.YtobbfenkdnaanaaGreatDoorSrn
import Derived.Deep.AppendSrc
set_option linter.unusedVariables false
set_option linter.unusedSimpArgs false
namespace Go.Proofs.YtobbfenkdnaanaaGreatDoor
open Go.RowKit Go.Maps Go.WideMaps Go.Sort

/-- A text's letters as numbers. -/
def codes (s : ByteArray) : List Int := s.data.toList.map fun b => (b.toNat : Int)
theorem codes_length (s : ByteArray) : (codes s).length = s.size := by
  unfold codes
  rw [List.length_map]
  exact Array.length_toList
theorem codes_cells (s : ByteArray) : Lib.byteCells s.data.toList = Lib.intCells (codes s) := by
  unfold codes Lib.intCells Lib.byteCells
  rw [List.map_map]
  rfl
theorem strOf_codes (s : ByteArray) : strOfNums (codes s) = s := by
  apply ByteArray.ext
  apply Array.toList_inj.mp
  rw [strOfNums_data]
  unfold codes
  rw [List.map_map]
  conv => rhs; rw [← List.map_id s.data.toList]
  apply List.map_congr_left
  intro b _
  simp
theorem strOf_append (a b : List Int) : strOfNums (a ++ b) = strOfNums a ++ strOfNums b := by
  apply ByteArray.ext
  apply Array.toList_inj.mp
  rw [strOfNums_data, ByteArray.data_append, Array.toList_append, strOfNums_data, strOfNums_data, List.map_append]
/-- A label's line: its name, '=', its value quoted. -/
def lineN (T : Lib.PrintTabs) (p : ByteArray × ByteArray) : List Int := codes p.1 ++ (61 :: Lib.quoteZ T p.2)
/-- Lines with ', ' between them. -/
def joinN : List (List Int) → List Int
  | [] => []
  | x :: xs => x ++ xs.flatMap (fun y => 44 :: 32 :: y)
theorem joinN_one (x : List Int) : joinN [x] = x := by simp [joinN]
theorem joinN_snoc (l : List (List Int)) (x : List Int) (h : l ≠ []) : joinN (l ++ [x]) = joinN l ++ (44 :: 32 :: x) := by
  cases l with
  | nil => exact absurd rfl h
  | cons y l => simp [joinN, List.flatMap_append]
theorem flat_len (k : Nat) : ∀ l : List (List Int), (∀ x ∈ l, x.length ≤ k) → (l.flatMap (fun y => 44 :: 32 :: y)).length ≤ l.length * (k + 2)
  | [], _ => by simp
  | x :: l, h => by
    have h1 := h x (List.mem_cons_self ..)
    have h2 := flat_len k l fun y hy => h y (List.mem_cons_of_mem _ hy)
    simp only [List.flatMap_cons, List.length_append, List.length_cons, Nat.add_mul]
    omega
theorem joinN_len (k : Nat) (l : List (List Int)) (h : ∀ x ∈ l, x.length ≤ k) : (joinN l).length ≤ l.length * (k + 2) := by
  cases l with
  | nil => simp [joinN]
  | cons x l =>
    have h1 := h x (List.mem_cons_self ..)
    have h2 := flat_len k l fun y hy => h y (List.mem_cons_of_mem _ hy)
    simp only [joinN, List.length_append, List.length_cons, Nat.add_mul]
    omega
theorem quoteFrom_len (T : Lib.PrintTabs) : ∀ (f : Nat) (s : ByteArray), (Lib.quoteFrom T f s).length ≤ 10 * f
  | 0, s => by simp [Lib.quoteFrom]
  | f + 1, s => by
    unfold Lib.quoteFrom
    split
    · have h1 := Lib.quoteStep_length_le T s
      have h2 := quoteFrom_len T f (s.extract (Utf8.decode s 0).2 s.size)
      rw [List.length_append]
      omega
    · simp
theorem quoteZ_len (T : Lib.PrintTabs) (s : ByteArray) : (Lib.quoteZ T s).length ≤ 10 * s.size + 2 := by
  have := quoteFrom_len T s.size s
  simp only [Lib.quoteZ, List.length_cons, List.length_append, List.length_nil]
  omega
theorem lineN_len (T : Lib.PrintTabs) (p : ByteArray × ByteArray) (h1 : p.1.size ≤ 300) (h2 : p.2.size ≤ 300) : (lineN T p).length ≤ 3303 := by
  have := quoteZ_len T p.2
  simp only [lineN, List.length_append, List.length_cons, codes_length]
  omega

theorem sortAt_strs : SortAt 115 := fun blk off cap ss w h1 h2 h3 => AnyM.slices_Sort_string Tryz.mStrs blk off cap ss w h1 h2 h3

/-- A name put behind the names of an array's slice. -/
theorem RowN.put {w : World} {base g C n : Nat} {e : TypeId} {ks : List ByteArray} (h : RowN w base e (.slice (some ⟨g, 0, none⟩) n C) ks) (hn : n < C) (x : ByteArray) :
    RowN (w.setCell ⟨g, n, none⟩ (.string x)) base e (.slice (some ⟨g, 0, none⟩) (n + 1) C) (ks ++ [x]) ∧ w.grownBy (w.setCell ⟨g, n, none⟩ (.string x)) (some g) := by
  refine ⟨?_, Lib.grownBy_setCell w g n _⟩
  rcases h.2 with ⟨h0, _⟩ | ⟨g', cap', cur, hv, hbase, hb, h1, h2, h3, h4⟩
  · cases h0
  simp only [Value.slice.injEq, Option.some.injEq, Addr.mk.injEq, true_and, and_true] at hv
  obtain ⟨rfl, rfl, rfl⟩ := hv
  have hll : ks.length < cur.toList.length := by have : cur.toList.length = cur.size := Array.length_toList; omega
  refine ⟨by simp, .inr ⟨g, C, cur.setIfInBounds ks.length (.string x), by simp, hbase, Lib.heap_setCell_same (i := ks.length) hb _, by simp; omega, h2, by simpa using h3, ?_⟩⟩
  rw [Nat.mul_one] at h4
  rw [List.length_append, List.length_singleton, Nat.mul_one, Array.toList_setIfInBounds, List.take_add_one, List.take_set_of_le (Nat.le_refl _), List.getElem?_set_self hll, h4, List.map_append]
  rfl
theorem infoS : (Tryz.prog.info? 9).map (fun i => (i.zero, i.size, i.bytes)) = some (some (.string ⟨#[]⟩), 1, 16) := by kernel_rfl
theorem wpList_append_put {w : World} {ops : Array Oper} {rest : List Oper} {o : Oper} {a : Act} {Q : Exit → Act → World → Prop} (hgd : o.guard = none) (s x : Operand)
    (ho : o.op = .call { callee := .builtin .append, args := #[s, x], argTypes := #[81, 81] }) (base g C n : Nat) (e : TypeId) (ks : List ByteArray) (xs : ByteArray) (v : Value)
    (hs : a.eval s = v) (hv : v = .slice (some ⟨g, 0, none⟩) n C) (h : RowN w base e v ks) (hn : n < C) (hx : a.eval x = .slice (some ⟨w.heap.size, 0, none⟩) 1 1)
    (hK : ∀ w', RowN w' base e (.slice (some ⟨g, 0, none⟩) (n + 1) C) (ks ++ [xs]) → (w.alloc (.cells #[.string xs] 9)).grownBy w' (some g) → wpList Tryz.prog ops Q rest (a.put o.dst (.slice (some ⟨g, 0, none⟩) (n + 1) C)) w') :
    wpList Tryz.prog ops Q (o :: rest) a (w.alloc (.cells #[.string xs] 9)) := by
  subst hv
  obtain ⟨i0, hi, hz0, hz1, hz2⟩ := info_parts infoS
  have h' := RowN.alloc h (.cells #[.string xs] 9)
  have hput := RowN.put h' hn xs
  rcases h'.2 with ⟨h0, _⟩ | ⟨g', cap', cur, hvv, hbase, hb, h1, h2, h3, h4⟩
  · cases h0
  simp only [Value.slice.injEq, Option.some.injEq, Addr.mk.injEq, true_and, and_true] at hvv
  obtain ⟨rfl, rfl, rfl⟩ := hvv
  have hsrc : Src Tryz.prog i0.size 81 (.slice (some ⟨w.heap.size, 0, none⟩) 1 1) 1 [.string xs] (w.alloc (.cells #[.string xs] 9)) := by
    rw [hz1]
    refine Src.ofSlice _ Tryz.underlying81 _ 1 1 _ rfl ?_ ?_
    · intro j u hj
      match j, hj with
      | 0, hj => simp at hj; subst hj; simp [Addr.add]
      | (j + 1), hj => simp at hj
    · intro u hu; simp at hu; subst hu; rfl
  refine wpList_plain hgd fun Kk hK' => ?_
  have hrun := run_append_room_src (P := Tryz.prog) (w.alloc (.cells #[.string xs] 9)) 81 81 o.type 9 i0 Tryz.underlying81 hi g 0 ks.length C (.slice (some ⟨w.heap.size, 0, none⟩) 1 1) 1 [.string xs] hsrc (by omega)
    (fun j hj => by
      have : j = 0 := by simpa using hj
      subst this
      rw [hz1, Lib.cell_of_heap hb, Array.getElem?_eq_getElem (by omega)]
      rfl)
    (fun j hj => Lib.frozen_of_heap hb _)
  have e1 : (w.alloc (.cells #[.string xs] 9)).setCells g (0 + ks.length * i0.size) [.string xs] = (w.alloc (.cells #[.string xs] 9)).setCell ⟨g, ks.length, none⟩ (.string xs) := by
    rw [hz1, Nat.zero_add, Nat.mul_one]
    rfl
  rw [e1] at hrun
  unfold Oper.wp
  simp [execOp, ho, resolve, invoke, builtin, hs, hx, hrun, Result.andThen]
  exact hK' _ _ (hK _ hput.1 hput.2)
end Go.Proofs.YtobbfenkdnaanaaGreatDoor

namespace Go.Proofs.YtobbfenkdnaanaaGreatDoor
open Go.RowKit Go.Maps Go.WideMaps Go.Sort Go.Proofs

/-- The names' array as it is laid. -/
abbrev lna0 : Array Value := #[.string ⟨#[]⟩, .string ⟨#[]⟩, .string ⟨#[]⟩, .string ⟨#[]⟩, .string ⟨#[]⟩, .string ⟨#[]⟩, .string ⟨#[]⟩, .string ⟨#[]⟩, .string ⟨#[]⟩, .string ⟨#[]⟩, .string ⟨#[]⟩, .string ⟨#[]⟩, .string ⟨#[]⟩, .string ⟨#[]⟩, .string ⟨#[]⟩, .string ⟨#[]⟩, .string ⟨#[]⟩, .string ⟨#[]⟩, .string ⟨#[]⟩, .string ⟨#[]⟩, .string ⟨#[]⟩, .string ⟨#[]⟩, .string ⟨#[]⟩, .string ⟨#[]⟩, .string ⟨#[]⟩, .string ⟨#[]⟩, .string ⟨#[]⟩, .string ⟨#[]⟩, .string ⟨#[]⟩, .string ⟨#[]⟩, .string ⟨#[]⟩, .string ⟨#[]⟩]
theorem z170 : lna0.size = 32 := rfl
theorem z171 : Tryz.zeroCells171.size = 1024 := by kernel_rfl
theorem slice170 (N : Nat) (w : World) : (Instr.sliceAt 170 (.pointer (some ⟨N, 0, none⟩)) none (some (.int .i64 0)) none).run Tryz.prog w = .ok (.slice (some ⟨N, 0, none⟩) 0 32) w := by
  have hal : Tryz.prog.arrayLen 170 = 32 := by simp [Program.arrayLen, Tryz.underlying170]
  have hel : Tryz.prog.elem 170 = 9 := by simp [Program.elem, Tryz.underlying170]
  rw [run_sliceAt_array_h w 170 ⟨N, 0, none⟩ (by rw [hal, hel]; exact Tryz.underlying170) .i64 0 (by omega) (by rw [hal]; omega)]
  rw [hal, hel, Tryz.sizeOf9]
  simp [slicedAt, Addr.add, Result.andThen]
theorem slice171 (N : Nat) (w : World) : (Instr.sliceAt 171 (.pointer (some ⟨N, 0, none⟩)) none (some (.int .i64 0)) none).run Tryz.prog w = .ok (.slice (some ⟨N, 0, none⟩) 0 1024) w := by
  have hal : Tryz.prog.arrayLen 171 = 1024 := by simp [Program.arrayLen, Tryz.underlying171]
  have hel : Tryz.prog.elem 171 = 5 := by simp [Program.elem, Tryz.underlying171]
  rw [run_sliceAt_array_h w 171 ⟨N, 0, none⟩ (by rw [hal, hel]; exact Tryz.underlying171) .i64 0 (by omega) (by rw [hal]; omega)]
  rw [hal, hel, Tryz.sizeOf5]
  simp [slicedAt, Addr.add, Result.andThen]
theorem rowN_array (w : World) : RowN (w.alloc (.cells lna0 170)) w.heap.size 170 (.slice (some ⟨w.heap.size, 0, none⟩) 0 32) [] :=
  ⟨rfl, .inr ⟨w.heap.size, 32, lna0, rfl, Nat.le_refl _, heap_alloc_new w _, Nat.zero_le _, by unfold maxLen; omega, by rw [z170], rfl⟩⟩
/-- The lines of a set, its names in the order ks. -/
def linesN (T : Lib.PrintTabs) (l : LL) (ks : List ByteArray) : List (List Int) := ks.map fun x => lineN T (x, (getL l x).getD ⟨#[]⟩)
def setN (T : Lib.PrintTabs) (l : LL) : List Int := 123 :: (joinN (linesN T l (sortN (l.map Prod.fst))) ++ [125])

theorem BufIs.drewN {B b g cap : Nat} {bs : List Value} {w : World} (h : BufIs B b g cap bs w) (q : Nat) : BufIs B b g cap bs (w.drewN q) := ⟨h.hB, h.hg, h.ne, h.cell, h.row, h.le, h.max, h.one⟩
theorem MapIs.drw {w : World} {b n : Nat} {l : LL} (h : MapIs w b n l) (q : Nat) : MapIs (w.drewN q) b n l := h.next (below_drewN (Below.refl _ _) q)
theorem run_get_label {w : World} {b n : Nat} {l : LL} (hown : MapIs w b n l) (xs : ByteArray) (hxl : xs.size ≤ maxLen) :
    (Instr.lookup 75 (.map (some b)) (.string xs) false).run Tryz.prog w = .ok (.string ((getL l xs).getD ⟨#[]⟩)) w := by
  obtain ⟨D, ho, hr⟩ := hown
  obtain ⟨v, ps, hrun, hv⟩ := ho.lookup law Tryz.underlying75 (zeroV w) (zd := .lit (.string [])) (zp := []) (plainElem_string Tryz.underlying119 (s := ⟨#[]⟩) (by unfold maxLen; decide)) (keyOf_string_mk Tryz.underlying118 hxl)
  obtain ⟨s, rfl, hs, _⟩ := plainElem_string_inv Tryz.underlying119 hv
  have h1 := congrArg Prod.fst hs
  simp only [hr.at_] at h1
  have e : s = (getL l xs).getD ⟨#[]⟩ := by
    cases hgl : getL l xs with
    | none => rw [hgl] at h1; exact ba_ext (by simpa using h1.symm)
    | some u => rw [hgl] at h1; exact ba_ext (by simpa using h1.symm)
  subst e
  exact hrun
theorem buf_start (w : World) : BufIs w.heap.size (w.heap.size + 1) w.heap.size 1024 [] ((w.alloc (.cells Tryz.zeroCells171 171)).alloc (.cells #[.slice (some ⟨w.heap.size, 0, none⟩) 0 1024, .int .i64 0, .int .i8 0] 244)) := by
  refine ⟨by omega, Nat.le_refl _, by omega, ⟨0, ?_⟩, ⟨Tryz.zeroCells171, 171, ?_, z171, rfl⟩, by simp, by unfold maxLen; omega, fun v hv => by cases hv⟩
  · have := heap_alloc_new (w.alloc (.cells Tryz.zeroCells171 171)) (.cells #[.slice (some ⟨w.heap.size, 0, none⟩) 0 1024, .int .i64 0, .int .i8 0] 244)
    rw [show (w.alloc (.cells Tryz.zeroCells171 171)).heap.size = w.heap.size + 1 by simp] at this
    exact this
  · rw [RowKit.Below.heap_alloc _ _ _ (by simp)]
    exact heap_alloc_new w _
theorem cells_app (a b : List Int) : Lib.intCells a ++ Lib.intCells b = Lib.intCells (a ++ b) := by simp [Lib.intCells]
theorem cells_byte (a : List Int) (c : Int) : Lib.intCells a ++ [.int .u8 c] = Lib.intCells (a ++ [c]) := cells_app a [c]
theorem cells_text (a : List Int) (s : ByteArray) : Lib.intCells a ++ Lib.byteCells s.data.toList = Lib.intCells (a ++ codes s) := by rw [codes_cells, cells_app]
theorem codes_sep : codes ⟨#[44, 32]⟩ = [44, 32] := rfl
theorem lines_len (T : Lib.PrintTabs) {l : LL} (h : Sized l) (ho : Once l) {ks : List ByteArray} (hk : ∀ x ∈ ks, x ∈ l.map Prod.fst) (i : Nat) (hkl : ks.length ≤ 20) : (123 :: joinN ((linesN T l ks).take i)).length ≤ 70000 := by
  have h1 := joinN_len 3303 ((linesN T l ks).take i) (fun x hx => by
    have hx' := List.mem_of_mem_take hx
    obtain ⟨y, hy, rfl⟩ := List.mem_map.1 hx'
    obtain ⟨p, hp, rfl⟩ := List.mem_map.1 (hk y hy)
    have h2 := h.2 p hp
    rw [getL_of_mem (v := p.2) ho hp]
    exact lineN_len T _ h2.1 h2.2)
  have h2 : ((linesN T l ks).take i).length ≤ 20 := by
    rw [List.length_take]
    unfold linesN
    rw [List.length_map]
    omega
  have h3 : ((linesN T l ks).take i).length * (3303 + 2) ≤ 20 * (3303 + 2) := Nat.mul_le_mul_right _ h2
  simp only [List.length_cons]
  omega
theorem take_line (T : Lib.PrintTabs) (l : LL) (ks : List ByteArray) (i : Nat) (h : i < ks.length) : (linesN T l ks).take (i + 1) = (linesN T l ks).take i ++ [lineN T (ks[i]'h, (getL l (ks[i]'h)).getD ⟨#[]⟩)] := by
  rw [List.take_add_one]
  congr 1
  unfold linesN
  rw [List.getElem?_map, List.getElem?_eq_getElem h]
  rfl
theorem joinN_next (T : Lib.PrintTabs) (l : LL) (ks : List ByteArray) (i : Nat) (h : i < ks.length) (h0 : i ≠ 0) :
    123 :: joinN ((linesN T l ks).take (i + 1)) = (123 :: joinN ((linesN T l ks).take i)) ++ [44, 32] ++ lineN T (ks[i]'h, (getL l (ks[i]'h)).getD ⟨#[]⟩) := by
  rw [take_line T l ks i h, joinN_snoc _ _ (fun e => by
    have := congrArg List.length e
    unfold linesN at this
    rw [List.length_take, List.length_map, List.length_nil] at this
    omega)]
  simp
theorem joinN_first (T : Lib.PrintTabs) (l : LL) (ks : List ByteArray) (h : 0 < ks.length) :
    123 :: joinN ((linesN T l ks).take (0 + 1)) = (123 :: joinN ((linesN T l ks).take 0)) ++ lineN T (ks[0]'h, (getL l (ks[0]'h)).getD ⟨#[]⟩) := by
  rw [take_line T l ks 0 h]
  simp [joinN]

set_option maxHeartbeats 2000000 in
set_option maxRecDepth 100000 in
theorem setString_calls (T : Lib.PrintTabs) (ba na : Nat) (la : LL) (w : World) (ha : MapIs w ba na la) (hsa : Sized la) (hne : ∀ p ∈ la, 1 ≤ p.1.size) (hT : Lib.PrintTabsAt 8 9 10 11 T w) (hU : Lib.Utf8Tabs 0 1 w) :
    Calls Tryz.prog 93 #[.map (some ba)] w fun e w' => e = .returned (.string (strOfNums (setN T la))) ∧ Below w.heap.size w w' := by
  have HA := Aside0.mk ha
  have HSA := Aside0.mk hsa
  have HNE := Aside0.mk hne
  have HTU := Aside0.mk (And.intro hT hU)
  have hbl := ha.lt
  clear ha hsa hne hT hU
  have hs0 := slice170 w.heap.size
  have HR0 := Aside0.mk (rowN_array w)
  have HB0 := Aside0.mk (below_alloc (Below.refl w.heap.size w) (.cells lna0 170))
  have HM0 := Aside0.mk (HA.out.alloc (.cells lna0 170))
  go_enter Tryz.func93, Tryz.ntmps93
  go_wp2_with (at_range; refine wpList_range_label _ rfl _ 75 rfl Tryz.underlying75 ba na la rfl HM0.out ?_; intro w1 hrg1 hg1 hs1; have HRG := Aside0.mk hrg1; have HG1 := Aside0.mk (And.intro hg1 hs1); clear hrg1 hg1 hs1)
  go_frame
  have HR1 := Aside0.mk (HR0.out.kept HG1.out.1 (Or.inr (by simp [Value.ownBlock])))
  have HB1 := Aside0.mk (HB0.out.grown HG1.out.1 (by simp) (fun k hk => by cases hk))
  obtain ⟨r, hr⟩ : ∃ r, (w.alloc (.cells lna0 170)).heap.size = r := ⟨_, rfl⟩
  have HRS := Aside0.mk (show r = w.heap.size + 1 by rw [← hr]; simp)
  rw [hr] at HRG ⊢
  clear hr
  go_loopg [4] la.length (fun g v4 w' => ∃ d : LL, v4 = .slice (some ⟨w.heap.size, 0, none⟩) d.length 32 ∧ Aside0 (RangeIs w' ba r na la d g) ∧ Aside0 (RowN w' w.heap.size 170 (.slice (some ⟨w.heap.size, 0, none⟩) d.length 32) (d.map Prod.fst)) ∧ Aside0 (Below w.heap.size w w'))
  case atStart => exact ⟨[], rfl, HRG, HR1, HB1⟩
  case round =>
    obtain ⟨d, rfl, HR, HN, HBW⟩ := hrel
    go_wp2_with (at_next; refine wpList_next_label _ rfl _ rfl ba r na la d gk rfl HR.out ?_ ?_)
    · intro hperm
      have HP := Aside0.mk hperm
      have hdl : d.length = la.length := hperm.length_eq
      have HS := Aside0.mk (sort_row sortAt_strs HN.out (by rw [List.length_map]; have := HSA.out.1; omega) (by rw [List.length_map]))
      obtain ⟨ks, hks⟩ : ∃ ks, sortN (la.map Prod.fst) = ks := ⟨_, rfl⟩
      have hks2 : sortN (d.map Prod.fst) = ks := by rw [sortN_perm (hperm.map Prod.fst)]; exact hks
      have HKL := Aside0.mk (show ks.length = d.length by rw [← hks2, sortN_length, List.length_map])
      have hd20 : d.length ≤ 20 := by rw [hdl]; exact HSA.out.1
      have HKM := Aside0.mk (show ∀ x ∈ ks, x ∈ la.map Prod.fst from fun x hx => by rw [← hks] at hx; exact sortN_mem hx)
      have HLL := Aside0.mk (fun i => lines_len T HSA.out HR.out.map.once HKM.out i (by rw [HKL.out]; exact hd20))
      have HKS := Aside0.mk hks
      rw [hks2] at HS
      clear hperm hks hks2 hdl
      go_wp2_with fail
      refine HS.out.mono ?_
      rintro e w4 ⟨rfl, hrow4, hg4⟩
      have HR4 := Aside0.mk hrow4
      have HM4 := Aside0.mk (HR.out.map.kept hg4 (by simp; omega))
      have HB4 := Aside0.mk (HBW.out.grown hg4 HBW.out.size (fun k hk => by cases hk; exact Nat.le_refl _))
      have hAl : w.heap.size < w4.heap.size := (World.ownsRow.lt hrow4 w.heap.size rfl).2
      have HTU4 := Aside0.mk (show Lib.PrintTabsAt 8 9 10 11 T w4 ∧ Lib.Utf8Tabs 0 1 w4 from ⟨printTabs_below HTU.out.1 HB4.out, Utf8Tabs_below HTU.out.2 HB4.out⟩)
      clear hrow4 hg4
      have hsl := slice171 w4.heap.size
      have HBI := Aside0.mk (buf_start w4)
      go_wp2_with (go_at_call 146; go_in)
      have HB5 := Aside0.mk (show Below w4.heap.size w4 ((w4.alloc (.cells Tryz.zeroCells171 171)).alloc (.cells #[.slice (some ⟨w4.heap.size, 0, none⟩) 0 1024, .int .i64 0, .int .i8 0] 244)) from below_alloc (below_alloc (Below.refl _ _) _) _)
      refine (writeByte_calls w4.heap.size (w4.heap.size + 1) w4.heap.size 1024 [] 123 _ HBI.out HB5.out.size (.inl (by simp)) (by simp)).mono ?_
      rintro e w6 ⟨rfl, g6, cap6, hc6, hI6, hb6⟩
      obtain ⟨b, hb⟩ : ∃ b, w4.heap.size + 1 = b := ⟨_, rfl⟩
      rw [hb] at hI6 ⊢
      have HI6 := Aside0.mk (show BufIs w4.heap.size b g6 cap6 (Lib.intCells [123]) w6 from hI6)
      have HB6 := Aside0.mk (HB5.out.trans hb6)
      clear hc6 hI6 hb6 hb hsl HBI
      go_wp2_with fail
      go_loopg [29] (d.length + 1) (fun gg v29 w' => ∃ (i g cap : Nat), v29 = .int .i64 (i : Int) ∧ i + gg = d.length + 1 ∧ i ≤ d.length ∧ Aside0 (BufIs w4.heap.size b g cap (Lib.intCells (123 :: joinN ((linesN T la ks).take i))) w') ∧ Aside0 (Below w4.heap.size w4 w'))
      case atStart => exact ⟨0, g6, cap6, rfl, by omega, by omega, HI6, HB6⟩
      case round =>
        obtain ⟨i, g0, cap0, rfl, hig, hile, HI0, HB0⟩ := hrel
        have HLI := Aside0.mk (HLL.out i)
        by_cases hlt : i < d.length
        · obtain ⟨gz, rfl⟩ : ∃ m, gk = m + 1 := ⟨gk - 1, by omega⟩
          have hlk : i < ks.length := by rw [HKL.out]; exact hlt
          have c0 := (HB0.out.cell (p := ⟨w.heap.size, i, none⟩) hAl).trans (HR4.out.cell i hlk)
          obtain ⟨p, hp, hpe⟩ := List.mem_map.1 (HKM.out _ (List.getElem_mem hlk))
          have hg1 := getL_of_mem (v := p.2) HM4.out.once hp
          have hsz := HSA.out.2 p hp
          have hn1 := HNE.out p hp
          obtain ⟨x, hx⟩ : ∃ x, ks[i]'hlk = x := ⟨_, rfl⟩
          obtain ⟨u, hu⟩ : ∃ u, (getL la x).getD ⟨#[]⟩ = u := ⟨_, rfl⟩
          rw [hx] at c0 hpe
          rw [hpe] at hg1 hsz hn1
          have hu2 : p.2 = u := by rw [← hu, hg1]; rfl
          rw [hu2] at hsz
          have HX := Aside0.mk (show 1 ≤ x.size ∧ x.size ≤ 300 ∧ x.size ≤ maxLen ∧ (getL la x).getD ⟨#[]⟩ = u ∧ u.size ≤ 300 ∧ (ks[i]'hlk, (getL la (ks[i]'hlk)).getD ⟨#[]⟩) = (x, u) from ⟨hn1, hsz.1, by unfold maxLen; omega, hu, hsz.2, by rw [hx, hu]⟩)
          clear hpe hg1 hsz hn1 hu2 hu hx hp
          by_cases h0 : i = 0
          · subst h0
            go_wp2_with fail
            refine (writeString_calls w4.heap.size b g0 cap0 _ x _ HI0.out (by have := HB0.out.size; omega) HX.out.1 (.inr (by rw [intCells_length]; simp)) (by rw [intCells_length]; have h9 := HLI.out; simp only [List.length_cons] at h9; have := HX.out.2.1; simp only [List.length_append, List.length_cons, List.length_nil]; omega)).mono ?_
            rintro e w1 ⟨rfl, g1, cap1, hc1, hI1, hb1⟩
            rw [cells_text] at hI1
            have HI1 := Aside0.mk hI1
            have HB1 := Aside0.mk (HB0.out.trans hb1)
            clear hc1 hI1 hb1
            go_wp2_with fail
            refine (writeByte_calls w4.heap.size b g1 cap1 _ 61 _ HI1.out (by have := HB1.out.size; omega) (.inr (by rw [intCells_length]; simp)) (by rw [intCells_length]; have h9 := HLI.out; simp only [List.length_cons] at h9; have := HX.out.2.1; simp only [List.length_append, List.length_cons, List.length_nil, codes_length]; omega)).mono ?_
            rintro e w2 ⟨rfl, g2, cap2, hc2, hI2, hb2⟩
            rw [cells_byte] at hI2
            have HI2 := Aside0.mk hI2
            have HB2 := Aside0.mk (HB1.out.trans hb2)
            clear hc2 hI2 hb2
            obtain ⟨n2, hn2⟩ : ∃ n2, (123 :: joinN ((linesN T la ks).take 0)) ++ codes x ++ [61] = n2 := ⟨_, rfl⟩
            rw [hn2] at HI2
            have HN2 := Aside0.mk (show n2.length ≤ 70400 ∧ 0 < n2.length by
              rw [← hn2]
              have := HLI.out
              have := HX.out.2.1
              simp only [List.length_append, List.length_cons, List.length_nil, codes_length] at *
              omega)
            have HNE2 := Aside0.mk hn2
            clear hn2
            have HM2 := Aside0.mk (HM4.out.next (HB2.out))
            go_wp2_with fail
            have hkD : (Instr.lookup 75 (.map (some ba)) (.string x) false).run Tryz.prog w2.drew = .ok (.string u) w2.drew := by
              have := run_get_label (HM2.out.drw 1) x HX.out.2.2.1
              rw [HX.out.2.2.2.1] at this
              exact this
            have hkN : ∀ q, (Instr.lookup 75 (.map (some ba)) (.string x) false).run Tryz.prog (w2.drewN q) = .ok (.string u) (w2.drewN q) := fun q => by
              have := run_get_label (HM2.out.drw q) x HX.out.2.2.1
              rw [HX.out.2.2.2.1] at this
              exact this
            go_region_with (first
                | (go_at_call 151; refine Calls.mono (avail_calls w4.heap.size b g2 cap2 (Lib.intCells n2) _ ?ha) ?_; (case ha => exact HI2.out.drewN 1); rintro e w9 ⟨ao, rfl, hao, k9, rfl⟩; have HAO := Aside0.mk hao; clear hao)
                | (go_at_call 150; refine Calls.mono (appendQuote_calls T w4 _ b g2 cap2 (Lib.intCells n2) ao u ?ha HAO.out ?hl ?hb ?ht ?hu) ?_; (case ha => exact HI2.out.drewN (1 + k9)); (case hl => have := HX.out.2.2.2.2; omega); (case hb => exact below_drewN HB2.out (1 + k9)); (case ht => exact HTU4.out.1); (case hu => exact HTU4.out.2); rintro e w10 ⟨px, po, pC, rfl, hp1, hp2, hp3, hp4, hp5⟩; have HPX := Aside0.mk (And.intro hp1.out (And.intro hp2 (And.intro hp3 hp4))); have HB10 := Aside0.mk ((below_drewN HB2.out (1 + k9)).trans hp5); clear hp1 hp2 hp3 hp4 hp5)
                | (go_at_call 149; refine Calls.mono (write_calls w4.heap.size b g2 cap2 (Lib.intCells n2) (Lib.intCells (Lib.quoteZ T u)) px po (Lib.quoteZ T u).length pC _ ?ha ?hb ?hq (intCells_length _) ?hx ?hl ?hs (intCells_one _) ?h1 ?h2) ?_; (case ha => exact HPX.out.2.2.2); (case hb => exact HB10.out.size); (case hq => simp [Lib.quoteZ]); (case hx => exact HPX.out.2.1); (case hl => exact HPX.out.2.2.1); (case hs => exact HPX.out.1); (case h1 => exact .inr (by rw [intCells_length]; exact HN2.out.2)); (case h2 => rw [intCells_length]; have h3 := quoteZ_len T u; have := HX.out.2.2.2.2; have := HN2.out.1; omega); rintro e w11 ⟨rfl, g11, cap11, hc11, hI11, hb11⟩; rw [cells_app] at hI11; have HI11 := Aside0.mk hI11; have HB11 := Aside0.mk (HB10.out.trans hb11); clear hc11 hI11 hb11))
            all_goals
              go_wp2_with fail
              go_roundg gz
              case measure => omega
              case rel =>
                refine ⟨0 + 1, g11, cap11, by go_num, by omega, by omega, ⟨?_⟩, HB11⟩
                rw [joinN_first T la ks (by have := HKL.out; omega), HX.out.2.2.2.2.2]
                have := HI11.out
                rw [← HNE2.out] at this
                unfold lineN
                simpa [List.append_assoc] using this
          · have hi0 : (0 : Int) < (i : Int) := by omega
            go_wp2_with fail
            refine (writeString_calls w4.heap.size b g0 cap0 _ ⟨#[44, 32]⟩ _ HI0.out (by have := HB0.out.size; omega) (by decide) (.inr (by rw [intCells_length]; simp)) (by rw [intCells_length]; have h9 := HLI.out; simp only [List.length_cons] at h9 ⊢; show _ + 2 ≤ _; omega)).mono ?_
            rintro e w1 ⟨rfl, g1, cap1, hc1, hI1, hb1⟩
            rw [cells_text, codes_sep] at hI1
            have HI1 := Aside0.mk hI1
            have HB1 := Aside0.mk (HB0.out.trans hb1)
            clear hc1 hI1 hb1
            go_wp2_with fail
            refine (writeString_calls w4.heap.size b g1 cap1 _ x _ HI1.out (by have := HB1.out.size; omega) HX.out.1 (.inr (by rw [intCells_length]; simp)) (by rw [intCells_length]; have h9 := HLI.out; simp only [List.length_cons] at h9; have := HX.out.2.1; simp only [List.length_append, List.length_cons, List.length_nil]; omega)).mono ?_
            rintro e w2 ⟨rfl, g2, cap2, hc2, hI2, hb2⟩
            rw [cells_text] at hI2
            have HI2 := Aside0.mk hI2
            have HB2 := Aside0.mk (HB1.out.trans hb2)
            clear hc2 hI2 hb2
            go_wp2_with fail
            refine (writeByte_calls w4.heap.size b g2 cap2 _ 61 _ HI2.out (by have := HB2.out.size; omega) (.inr (by rw [intCells_length]; simp)) (by rw [intCells_length]; have h9 := HLI.out; simp only [List.length_cons] at h9; have := HX.out.2.1; simp only [List.length_append, List.length_cons, List.length_nil, codes_length]; omega)).mono ?_
            rintro e w3 ⟨rfl, g3, cap3, hc3, hI3, hb3⟩
            rw [cells_byte] at hI3
            have HI3 := Aside0.mk hI3
            have HB3 := Aside0.mk (HB2.out.trans hb3)
            clear hc3 hI3 hb3
            obtain ⟨n3, hn3⟩ : ∃ n3, (123 :: joinN ((linesN T la ks).take i)) ++ [44, 32] ++ codes x ++ [61] = n3 := ⟨_, rfl⟩
            rw [hn3] at HI3
            have HN3 := Aside0.mk (show n3.length ≤ 70400 ∧ 0 < n3.length by
              rw [← hn3]
              have := HLI.out
              have := HX.out.2.1
              simp only [List.length_append, List.length_cons, List.length_nil, codes_length] at *
              omega)
            have HNE3 := Aside0.mk hn3
            clear hn3
            have HM3 := Aside0.mk (HM4.out.next (HB3.out))
            go_wp2_with fail
            have hkD : (Instr.lookup 75 (.map (some ba)) (.string x) false).run Tryz.prog w3.drew = .ok (.string u) w3.drew := by
              have := run_get_label (HM3.out.drw 1) x HX.out.2.2.1
              rw [HX.out.2.2.2.1] at this
              exact this
            have hkN : ∀ q, (Instr.lookup 75 (.map (some ba)) (.string x) false).run Tryz.prog (w3.drewN q) = .ok (.string u) (w3.drewN q) := fun q => by
              have := run_get_label (HM3.out.drw q) x HX.out.2.2.1
              rw [HX.out.2.2.2.1] at this
              exact this
            go_region_with (first
                | (go_at_call 151; refine Calls.mono (avail_calls w4.heap.size b g3 cap3 (Lib.intCells n3) _ ?ha) ?_; (case ha => exact HI3.out.drewN 1); rintro e w9 ⟨ao, rfl, hao, k9, rfl⟩; have HAO := Aside0.mk hao; clear hao)
                | (go_at_call 150; refine Calls.mono (appendQuote_calls T w4 _ b g3 cap3 (Lib.intCells n3) ao u ?ha HAO.out ?hl ?hb ?ht ?hu) ?_; (case ha => exact HI3.out.drewN (1 + k9)); (case hl => have := HX.out.2.2.2.2; omega); (case hb => exact below_drewN HB3.out (1 + k9)); (case ht => exact HTU4.out.1); (case hu => exact HTU4.out.2); rintro e w10 ⟨px, po, pC, rfl, hp1, hp2, hp3, hp4, hp5⟩; have HPX := Aside0.mk (And.intro hp1.out (And.intro hp2 (And.intro hp3 hp4))); have HB10 := Aside0.mk ((below_drewN HB3.out (1 + k9)).trans hp5); clear hp1 hp2 hp3 hp4 hp5)
                | (go_at_call 149; refine Calls.mono (write_calls w4.heap.size b g3 cap3 (Lib.intCells n3) (Lib.intCells (Lib.quoteZ T u)) px po (Lib.quoteZ T u).length pC _ ?ha ?hb ?hq (intCells_length _) ?hx ?hl ?hs (intCells_one _) ?h1 ?h2) ?_; (case ha => exact HPX.out.2.2.2); (case hb => exact HB10.out.size); (case hq => simp [Lib.quoteZ]); (case hx => exact HPX.out.2.1); (case hl => exact HPX.out.2.2.1); (case hs => exact HPX.out.1); (case h1 => exact .inr (by rw [intCells_length]; exact HN3.out.2)); (case h2 => rw [intCells_length]; have h3 := quoteZ_len T u; have := HX.out.2.2.2.2; have := HN3.out.1; omega); rintro e w11 ⟨rfl, g11, cap11, hc11, hI11, hb11⟩; rw [cells_app] at hI11; have HI11 := Aside0.mk hI11; have HB11 := Aside0.mk (HB10.out.trans hb11); clear hc11 hI11 hb11))
            all_goals
              go_wp2_with fail
              go_roundg gz
              case measure => omega
              case rel =>
                refine ⟨i + 1, g11, cap11, by go_num, by omega, by omega, ⟨?_⟩, HB11⟩
                rw [joinN_next T la ks i (by have := HKL.out; omega) h0, HX.out.2.2.2.2.2]
                have := HI11.out
                rw [← HNE3.out] at this
                unfold lineN
                simpa [List.append_assoc] using this
        · obtain rfl : i = d.length := by omega
          have HF := Aside0.mk (show (linesN T la ks).take d.length = linesN T la ks from List.take_of_length_le (by unfold linesN; rw [List.length_map, HKL.out]; exact Nat.le_refl _))
          rw [HF.out] at HI0 HLI
          go_wp2_with fail
          refine (writeByte_calls w4.heap.size b g0 cap0 _ 125 _ HI0.out (by have := HB0.out.size; omega) (.inr (by rw [intCells_length]; simp)) (by rw [intCells_length]; have := HLI.out; omega)).mono ?_
          rintro e w7 ⟨rfl, g7, cap7, hc7, hI7, hb7⟩
          rw [cells_byte] at hI7
          have HI7 := Aside0.mk hI7
          have HB7 := Aside0.mk (HB0.out.trans hb7)
          clear hc7 hI7 hb7
          go_wp2_with fail
          refine (bufString_calls w4.heap.size b g7 cap7 _ _ HI7.out).mono ?_
          rintro e w8 ⟨rfl, k8, rfl⟩
          have HX := Aside0.mk (show strOfNums (123 :: joinN (linesN T la ks) ++ [125]) = strOfNums (setN T la) by unfold setN; rw [HKS.out]; rfl)
          rw [HX.out]
          have HB8 := Aside0.mk (below_step HB4.out (below_drewN HB7.out k8))
          go_wp2
          go_ret
          exact ⟨rfl, HB8.out⟩
    · intro x v w2 cnt1 hlx hdx hxl hrg2 hlt hg2 hs2 hen
      have HBX := Aside0.mk (HBW.out.grown hg2 (by have := HBW.out.size; omega) (fun k hk => by cases hk; rw [HRS.out]; omega))
      have HR2 := Aside0.mk (HN.out.kept hg2 (Or.inr (by simp [Value.ownBlock]; rw [HRS.out]; omega)))
      have hdl := HR.out.count
      have hdl2 := HSA.out.1
      have HRG2 := Aside0.mk hrg2
      have hd32 : d.length < 32 := by omega
      clear hlx hdx hxl hrg2 hg2 hs2 hdl hdl2
      go_wp2_with (at_builtin; refine wpList_append_put rfl _ _ rfl w.heap.size w.heap.size 32 d.length 170 (d.map Prod.fst) x (.slice (some ⟨w.heap.size, 0, none⟩) d.length 32) rfl rfl HR2.out hd32 rfl ?_; intro w3 hr3 hg3; have HR3 := Aside0.mk hr3; have HG3 := Aside0.mk hg3; clear hr3 hg3)
      try go_frame
      go_roundg cnt1
      case measure => exact hlt
      case rel =>
        refine ⟨d ++ [(x, v)], by simp, ⟨(HRG2.out.alloc _).kept HG3.out (by simp; omega) (by rw [HRS.out]; simp)⟩, ⟨?_⟩, ⟨?_⟩⟩
        · have := HR3.out
          simpa using this
        · exact (below_alloc HBX.out _).grown HG3.out (by have := HBX.out.size; simp; omega) (fun j hj => by cases hj; exact Nat.le_refl _)
end Go.Proofs.YtobbfenkdnaanaaGreatDoor
