/- The reference's Flat and Finger, by contract. -/
import Derived.Test.YtobbfenkdnaanaaGreatDoorFastA
import Derived.Lib.BufSteps
import Derived.Lib.AtoiErrMem
import Derived.Deep.RegionWith
set_option linter.unusedVariables false
set_option linter.unusedSimpArgs false
namespace Go.Proofs.YtobbfenkdnaanaaGreatDoor
open Go.RowKit Go.Maps Go.WideMaps

def flat1 (p : ByteArray × ByteArray) : List UInt8 := p.1.data.toList ++ [255] ++ p.2.data.toList ++ [255]
def flatL (l : LL) : List UInt8 := l.flatMap flat1
theorem infoU8 : (Tryz.prog.info? 5).map (fun i => (i.zero, i.size, i.bytes)) = some (some (.int .u8 0), 1, 1) := by kernel_rfl

theorem flatL_len : ∀ {l : LL}, (∀ p ∈ l, p.1.size ≤ 300 ∧ p.2.size ≤ 300) → (flatL l).length ≤ 602 * l.length
  | [], _ => by simp [flatL]
  | p :: l, h => by
    have h1 := flatL_len (l := l) (fun q hq => h q (List.mem_cons_of_mem _ hq))
    have h2 := h p (List.mem_cons_self ..)
    have e : flatL (p :: l) = flat1 p ++ flatL l := rfl
    have e2 : (flat1 p).length = p.1.size + 1 + p.2.size + 1 := by
      unfold flat1
      simp only [List.length_append, List.length_singleton, len_toList]
    rw [e, List.length_append, e2, List.length_cons]
    omega
theorem hcellb {w w' : World} {B b : Nat} (h : Below B w w') (hb : b < B) (o : Nat) : w'.cell? ⟨b, o, none⟩ = w.cell? ⟨b, o, none⟩ := h.cell (p := ⟨b, o, none⟩) hb

set_option maxHeartbeats 1000000 in
set_option maxRecDepth 100000 in
theorem flat_calls (a : Option Addr) (cap : Nat) (l : LL) (w : World) (hl : Labs w a l) (hs : Sized l) :
    Calls Tryz.prog 37 #[.slice a l.length cap] w fun e w' => ∃ v, e = .returned v ∧ Lib.OwnBuf w.heap.size 5 v (flatL l).length (Lib.byteCells (flatL l)) w w' := by
  have HL := Aside0.mk hl
  have HS := Aside0.mk hs
  have hlen := hs.1
  clear hl hs
  obtain ⟨i0, hi, hz0, hz1, hz2⟩ := info_parts infoU8
  have HI := Aside0.mk (And.intro hi (And.intro hz0 (And.intro hz1 hz2)))
  clear hi hz0 hz1 hz2
  obtain ⟨wo, hwo⟩ : ∃ wo : World, wo = w := ⟨_, rfl⟩
  subst hwo
  go_enter Tryz.func37, Tryz.ntmps37
  go_wp2_with fail
  go_loopg [3, 4] (l.length + 1) (fun g v3 v4 w' => ∃ i : Nat, v4 = .int .i64 (i : Int) ∧ i + g = l.length + 1 ∧ i ≤ l.length ∧ Aside0 (Lib.OwnBuf wo.heap.size 5 v3 (flatL (l.take i)).length (Lib.byteCells (flatL (l.take i))) wo w'))
  case atStart => exact ⟨0, rfl, by omega, by omega, ⟨World.ownsRowF_nil _ _ _ _, Below.refl _ _, Nat.le_refl _⟩⟩
  case round =>
    obtain ⟨i, rfl, hig, hile, HO⟩ := hrel
    by_cases hlt : i < l.length
    · obtain ⟨g1, rfl⟩ : ∃ m, gk = m + 1 := ⟨gk - 1, by omega⟩
      rcases HL.out with h | ⟨b, off, ha, hblt, hcw0⟩
      · rw [h] at hlt; simp at hlt
      have HB0 := Aside0.mk hblt
      have hcw : ∀ i (h : i < l.length), wo.cell? ⟨b, off + i * 2 + 1, none⟩ = some (.string (l[i]'h).2) := fun i h => (hcw0 i h).2
      have hc : ∀ i (h : i < l.length), wr.cell? ⟨b, off + i * 2, none⟩ = some (.string (l[i]'h).1) ∧ wr.cell? ⟨b, off + i * 2 + 1, none⟩ = some (.string (l[i]'h).2) := fun i h => ⟨(hcellb HO.out.2.1 hblt _).trans (hcw0 i h).1, (hcellb HO.out.2.1 hblt _).trans (hcw0 i h).2⟩
      subst ha
      have hblt0 : b < wo.heap.size := HB0.out
      have c0 := (hc i hlt).1
      have c1 := (hc i hlt).2
      have c1r := hcw i hlt
      have hsz := HS.out.2 _ (List.getElem_mem hlt)
      have hfl := flatL_len (l := l.take i) (fun p hp => HS.out.2 p (List.mem_of_mem_take hp))
      have hnx : flatL (l.take (i + 1)) = flatL (l.take i) ++ flat1 (l[i]'hlt) := by
        rw [List.take_add_one, List.getElem?_eq_getElem hlt]
        unfold flatL
        rw [List.flatMap_append]
        simp
      obtain ⟨x, hx⟩ : ∃ x, (l[i]'hlt).1 = x := ⟨_, rfl⟩
      obtain ⟨y, hy⟩ : ∃ y, (l[i]'hlt).2 = y := ⟨_, rfl⟩
      rw [show l[i]'hlt = (x, y) by rw [← hx, ← hy]] at hnx hsz
      rw [hx] at c0
      rw [hy] at c1 c1r
      have c1' := Aside0.mk c1r
      clear c1r
      have HN := Aside0.mk (And.intro hnx (And.intro (show x.size ≤ 300 from hsz.1) (And.intro (show y.size ≤ 300 from hsz.2) (show (flatL (l.take i)).length ≤ 12040 by rw [List.length_take] at hfl; omega))))
      clear hc hx hy hblt hnx hsz hfl hcw hcw0
      go_wp2_with (first
        | (at_builtin; refine Lib.wpList_append_text rfl _ _ 62 9 rfl wo.heap.size 5 i0 Tryz.underlying62 Tryz.underlying9 HI.out.1 HI.out.2.1 HI.out.2.2.1 HI.out.2.2.2 _ _ _ rfl wo HO.out _ rfl (by have := HN.out.2; omega) ?_; intro v1 w1 ho1; have HO1 := Aside0.mk ho1; have d1 := ((hcellb ho1.2.1 hblt0 (off + i * 2 + 1)).trans c1'.out); clear ho1 HO)
        | (at_builtin; refine Lib.wpList_append_byte rfl _ _ 62 rfl wo.heap.size 5 i0 Tryz.underlying62 HI.out.1 HI.out.2.1 HI.out.2.2.1 HI.out.2.2.2 v1 _ _ rfl wo _ 255 HO1.out rfl (by have := HN.out.2; omega) ?_; intro v2 w2 ho2; have HO2 := Aside0.mk ho2; have d2 := ((hcellb ho2.2.1 hblt0 (off + i * 2 + 1)).trans c1'.out); clear ho2 HO1)
        | (at_builtin; refine Lib.wpList_append_text rfl _ _ 62 9 rfl wo.heap.size 5 i0 Tryz.underlying62 Tryz.underlying9 HI.out.1 HI.out.2.1 HI.out.2.2.1 HI.out.2.2.2 v2 _ _ rfl wo HO2.out _ rfl (by have := HN.out.2; omega) ?_; intro v3 w3 ho3; have HO3 := Aside0.mk ho3; clear ho3 HO2)
        | (at_builtin; refine Lib.wpList_append_byte rfl _ _ 62 rfl wo.heap.size 5 i0 Tryz.underlying62 HI.out.1 HI.out.2.1 HI.out.2.2.1 HI.out.2.2.2 v3 _ _ rfl wo _ 255 HO3.out rfl (by have := HN.out.2; omega) ?_; intro v4 w4 ho4; have HO4 := Aside0.mk ho4; clear ho4 HO3))
      try go_frame
      go_roundg g1
      case measure => omega
      case rel =>
        refine ⟨i + 1, by go_num, by omega, by omega, ⟨?_⟩⟩
        have h4 := HO4.out
        rw [HN.out.1]
        unfold flat1
        have e1 : Lib.byteCells (flatL (l.take i)) ++ Lib.strCells x ++ [.int .u8 255] ++ Lib.strCells y ++ [.int .u8 255] = Lib.byteCells (flatL (l.take i) ++ (x.data.toList ++ [255] ++ y.data.toList ++ [255])) := by
          rw [Lib.strCells_eq, Lib.strCells_eq]
          simp [Lib.byteCells]
        have e2 : (flatL (l.take i)).length + x.size + 1 + y.size + 1 = (flatL (l.take i) ++ (x.data.toList ++ [255] ++ y.data.toList ++ [255])).length := by
          simp only [List.length_append, List.length_singleton, len_toList]
          omega
        rw [e1, e2] at h4
        exact h4
    · have HE := Aside0.mk (show l.take i = l from List.take_of_length_le (by omega))
      rename_i v3 _
      clear hig hile
      go_wp2_with fail
      go_ret
      refine ⟨_, rfl, ?_⟩
      have := HO.out
      rw [HE.out] at this
      exact this

theorem byts_own {B : Nat} {v : Value} {l : List UInt8} {w0 w : World} (h : Lib.OwnBuf B 5 v l.length (Lib.byteCells l) w0 w) : ∃ a cap, v = .slice a l.length cap ∧ Byts w a l := by
  rcases h.1.2 with ⟨rfl, h0⟩ | ⟨g, cap, cur, fz, rfl, _⟩
  · have hl : l = [] := List.eq_nil_of_length_eq_zero h0
    subst hl
    exact ⟨none, 0, rfl, .inl rfl⟩
  · refine ⟨some ⟨g, 0, none⟩, cap, rfl, .inr ⟨g, 0, rfl, fun i hi => ?_⟩⟩
    rw [show (⟨g, 0 + i, none⟩ : Addr) = (⟨g, 0, none⟩ : Addr).add i by simp [Addr.add]]
    refine h.1.cells (g := g) rfl i _ ?_
    unfold Lib.byteCells
    simp [hi]

set_option maxRecDepth 100000 in
theorem specFinger_calls (a : Option Addr) (cap : Nat) (l : LL) (w : World) (hl : Labs w a l) (hs : Sized l) :
    Calls Tryz.prog 16 #[.slice a l.length cap] w fun e w' => e = .returned (.int .u64 (fnvL fnv0 (flatL l))) ∧ Below w.heap.size w w' := by
  have HL := Aside0.mk hl
  have HS := Aside0.mk hs
  clear hl hs
  go_enter Tryz.func16, Tryz.ntmps16
  go_wp2_with fail
  refine (flat_calls a cap l _ HL.out HS.out).mono ?_
  rintro e w1 ⟨v, rfl, ho⟩
  obtain ⟨a1, cap1, rfl, hb⟩ := byts_own ho
  have HB := Aside0.mk (And.intro hb ho.2.1)
  have hfl := flatL_len HS.out.2
  have HFL := Aside0.mk (show (flatL l).length ≤ 1000000 by have := HS.out.1; omega)
  clear ho hb hfl
  go_wp2_with fail
  refine (fnv_calls a1 cap1 (flatL l) _ HB.out.1 HFL.out).mono ?_
  rintro e w2 ⟨rfl, rfl⟩
  go_wp2
  go_ret
  exact ⟨rfl, HB.out.2⟩

theorem joined_data (x y : ByteArray) : (x ++ ⟨#[255]⟩ ++ y).data.toList = x.data.toList ++ [255] ++ y.data.toList := by
  rw [ByteArray.data_append, ByteArray.data_append, Array.toList_append, Array.toList_append]
theorem joined_len (x y : ByteArray) : (x ++ ⟨#[255]⟩ ++ y).data.toList.length = x.size + 1 + y.size := by
  rw [joined_data]
  simp only [List.length_append, List.length_singleton, len_toList]
theorem fnv_joined (x y : ByteArray) (hx : x.size ≤ 300) (hy : y.size ≤ 300) (W : World) :
    Calls Tryz.prog 36 #[.slice (some ⟨W.heap.size, 0, none⟩) (x.size + 1 + y.size) (grownCap W.drew (x.size + 1 + y.size) 0 5)] (Lib.bytesWorld W.drew 5 (x ++ ⟨#[255]⟩ ++ y)) fun e w' => e = .returned (.int .u64 (labelH (x, y))) ∧ w' = Lib.bytesWorld W.drew 5 (x ++ ⟨#[255]⟩ ++ y) := by
  have h := fnv_calls (some ⟨W.heap.size, 0, none⟩) (grownCap W.drew (x.size + 1 + y.size) 0 5) (x ++ ⟨#[255]⟩ ++ y).data.toList (Lib.bytesWorld W.drew 5 (x ++ ⟨#[255]⟩ ++ y)) (.inr ⟨W.heap.size, 0, rfl, fun j hj => by
    have hs : j < (x ++ ⟨#[255]⟩ ++ y).size := by rw [← len_toList]; exact hj
    have h1 := Lib.bytesWorld_cell W.drew 5 (x ++ ⟨#[255]⟩ ++ y) j hs
    rw [Nat.zero_add]
    refine h1.trans ?_
    rw [List.getD_eq_getElem?_getD, List.getElem?_eq_getElem hj]
    rfl⟩) (by rw [joined_len]; omega)
  rw [joined_len] at h
  refine h.mono fun e w' hh => ⟨?_, hh.2⟩
  rw [hh.1, joined_data, fnvL_append, fnvL_append]
  rfl

set_option maxHeartbeats 1000000 in
set_option maxRecDepth 100000 in
theorem specFast_calls (a : Option Addr) (cap : Nat) (l : LL) (w : World) (hl : Labs w a l) (hs : Sized l) :
    Calls Tryz.prog 17 #[.slice a l.length cap] w fun e w' => e = .returned (.int .u64 (fastH l)) ∧ Below w.heap.size w w' := by
  have HL := Aside0.mk hl
  have HS := Aside0.mk hs
  have hlen := hs.1
  clear hl hs
  by_cases h0 : l.length = 0
  · have c0 : ((l.length : Int) == 0) = true := by simp [h0]
    have HF := Aside0.mk (show fastH l = fnv0 by unfold fastH; rw [if_pos h0])
    clear h0
    go_enter Tryz.func17, Tryz.ntmps17
    go_wp2_with fail
    refine (fnv_calls none 0 [] _ (.inl rfl) (by simp)).mono ?_
    rintro e w1 ⟨rfl, rfl⟩
    go_wp2
    go_ret
    exact ⟨by rw [HF.out]; rfl, Below.refl _ _⟩
  · have c0 : ((l.length : Int) == 0) = false := beq_eq_false_iff_ne.2 (by omega)
    have HF := Aside0.mk (show fastH l = fastX l by unfold fastH; rw [if_neg h0])
    clear h0
    obtain ⟨wo, hwo⟩ : ∃ wo : World, wo = w := ⟨_, rfl⟩
    subst hwo
    have hcv : ∀ (w : World) (s : ByteArray), (convert 9 62 (.string s)).run Tryz.prog w = .ok (.slice (some ⟨w.heap.size, 0, none⟩) s.size (grownCap w s.size 0 5)) (Lib.bytesWorld w 5 s) := fun w s => Lib.run_convert_string_bytes w 9 62 5 s (u := .string) Tryz.underlying9 Tryz.underlying62 Tryz.underlying5
    go_enter Tryz.func17, Tryz.ntmps17
    go_wp2_with fail
    go_loopg [3, 4] (l.length + 1) (fun g v3 v4 w' => ∃ i : Nat, v4 = .int .i64 (i : Int) ∧ v3 = .int .u64 (fastX (l.take i)) ∧ i + g = l.length + 1 ∧ i ≤ l.length ∧ Aside0 (Below wo.heap.size wo w'))
    case atStart => exact ⟨0, rfl, rfl, by omega, by omega, ⟨Below.refl _ _⟩⟩
    case round =>
      obtain ⟨i, rfl, rfl, hig, hile, HB⟩ := hrel
      obtain ⟨z, hz⟩ : ∃ z, fastX (l.take i) = z := ⟨_, rfl⟩
      by_cases hlt : i < l.length
      · obtain ⟨g1, rfl⟩ : ∃ m, gk = m + 1 := ⟨gk - 1, by omega⟩
        rcases HL.out.next HB.out with h | ⟨b, off, ha, hblt, hc⟩
        · rw [h] at hlt; simp at hlt
        subst ha
        have c0 := (hc i hlt).1
        have c1 := (hc i hlt).2
        have hsz := HS.out.2 _ (List.getElem_mem hlt)
        have hnx : fastX (l.take (i + 1)) = bits .xor .u64 z (labelH (l[i]'hlt)) := by
          rw [List.take_add_one, List.getElem?_eq_getElem hlt, ← hz]
          exact fastX_snoc _ _
        obtain ⟨x, hx⟩ : ∃ x, (l[i]'hlt).1 = x := ⟨_, rfl⟩
        obtain ⟨y, hy⟩ : ∃ y, (l[i]'hlt).2 = y := ⟨_, rfl⟩
        rw [show l[i]'hlt = (x, y) by rw [← hx, ← hy]] at hnx hsz
        rw [hx] at c0
        rw [hy] at c1
        rw [hz]
        have hxs : x.size ≤ 300 := hsz.1
        have hys : y.size ≤ 300 := hsz.2
        have HN := Aside0.mk (And.intro hnx (And.intro hxs hys))
        clear hc hx hy hnx hsz hz hblt
        go_wp2_with fail
        have HC := Aside0.mk (fnv_joined x y hxs hys wr)
        go_region_with (go_at_call 36; refine HC.out.mono ?_; rintro e w1 ⟨rfl, hw1⟩; have HW1 := Aside0.mk hw1; clear hw1)
        all_goals
          have HB1 := Aside0.mk (show Below wo.heap.size wo w1 by rw [HW1.out]; exact below_step HB.out.drew (Lib.bytesWorld_below wr.drew 5 _))
          go_wp2_with fail
          go_roundg g1
          case measure => omega
          case rel => exact ⟨i + 1, by go_num, by rw [HN.out.1], by omega, by omega, HB1⟩
      · have HE := Aside0.mk (show fastH l = z by rw [HF.out, ← hz, List.take_of_length_le (by omega)])
        rw [hz]
        clear hz hig hile
        go_wp2_with fail
        go_ret
        exact ⟨by rw [HE.out]; rfl, HB.out⟩
end Go.Proofs.YtobbfenkdnaanaaGreatDoor
