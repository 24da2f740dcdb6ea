/- Durations: String by its contract. -/
import Derived.Test.YtobbfenkdnaanaaGreatDoorDurC
import Derived.Deep.RegionHeld3
import Derived.Lib.ItoaLen
set_option linter.unusedVariables false
set_option linter.unusedSimpArgs false
namespace Go.Proofs.YtobbfenkdnaanaaGreatDoor
open Go.RowKit

theorem grow_below (w : World) (k : Nat) (os : Array Obj) : Below w.heap.size w (Sort.grow (w.drewN k) os) := by
  refine ⟨rfl, rfl, rfl, ?_, fun i hi => ?_⟩
  · show w.heap.size ≤ (w.heap ++ os).size
    simp
  · show (w.heap ++ os)[i]? = w.heap[i]?
    rw [Array.getElem?_append_left hi]
theorem format_calls (n : Int) (h0 : -9223372036854775808 ≤ n) (h1 : n ≤ 9223372036854775807) (w : World) (hg : Glob w) :
    Calls Tryz.prog 108 #[.int .i64 n, .int .i64 10] w fun e w' => e = .returned (.string ⟨(Lib.itoa n).toArray⟩) ∧ Below w.heap.size w w' := by
  refine (Tryz.strconv_FormatInt_10 n h0 h1 w hg.pow).mono ?_
  rintro e w' ⟨rfl, k, os, rfl⟩
  exact ⟨rfl, grow_below w k os⟩

/-- What a call of String's function leaves of the number and of the text. -/
def durStep (u : List UInt8) (m : Int) (ex : Bool) (z : Int × List UInt8) : Int × List UInt8 :=
  if (ex = true ∧ z.1 % m ≠ 0) ∨ z.1 / m ≤ 0 then z else (z.1 - z.1 / m * m, z.2 ++ (Lib.itoa (z.1 / m) ++ u))

/-- The two variables that String's function holds. -/
structure Held (w : World) (pm pr : Addr) (x : Int) (rs : List UInt8) : Prop where
  m : w.cell? pm = some (.int .i64 x)
  mf : w.frozen? pm = false
  r : w.cell? pr = some (.string ⟨rs.toArray⟩)
  rf : w.frozen? pr = false
theorem Held.below {w w' : World} {pm pr : Addr} {x : Int} {rs : List UInt8} (h : Held w pm pr x rs) (hb : Below w.heap.size w w') : Held w' pm pr x rs where
  m := cell_below hb h.m
  mf := (hb.frozen (World.block_lt_of_cell? w pm h.m)).trans h.mf
  r := cell_below hb h.r
  rf := (hb.frozen (World.block_lt_of_cell? w pr h.r)).trans h.rf

set_option maxHeartbeats 1000000 in
set_option maxRecDepth 100000 in
theorem str1_skip (u : ByteArray) (m : Int) (ex : Bool) (x : Int) (pm pr : Addr) (w : World) (hm : 0 < m) (hm1 : m ≤ 31536000000) (hx : 0 ≤ x) (hx1 : x ≤ 9223372036854775807)
    (hc : w.cell? pm = some (.int .i64 x)) (h : (ex = true ∧ x % m ≠ 0) ∨ x / m ≤ 0) :
    Calls Tryz.prog 178 #[.string u, .int .i64 m, .bool ex, .pointer (some pm), .pointer (some pr)] w fun e w' => e = .returned (.tuple #[]) ∧ w = w' := by
  by_cases h1 : ex = true ∧ x % m ≠ 0
  · obtain ⟨rfl, h1⟩ := h1
    have c1 : (x % m != 0) = true := bne_iff_ne.2 h1
    clear h1 h
    go_enter Tryz.func178, Tryz.ntmps178
    go_wp2
    refine bodyPost_ret (results_none rfl _ _ _) rfl ?_
    exact ⟨rfl, rfl⟩
  · have h2 : x / m ≤ 0 := by rcases h with h | h; exact absurd h h1; exact h
    cases ex with
    | true =>
      have c1 : (x % m != 0) = false := by rw [bne_eq_false_iff_eq]; simpa using h1
      clear h1 h
      go_enter Tryz.func178, Tryz.ntmps178
      go_wp2
      go_end0
      exact ⟨rfl, rfl⟩
    | false =>
      clear h1 h
      go_enter Tryz.func178, Tryz.ntmps178
      go_wp2
      go_end0
      exact ⟨rfl, rfl⟩

set_option maxHeartbeats 1000000 in
set_option maxRecDepth 100000 in
theorem str1_put (u : List UInt8) (m : Int) (ex : Bool) (x : Int) (rs : List UInt8) (w : World) (B : Nat) (hm : 0 < m) (hm1 : m ≤ 31536000000) (hx : 0 ≤ x) (hx1 : x ≤ 9223372036854775807)
    (hg : Glob w) (hh : Held w ⟨B, 0, none⟩ ⟨B + 1, 0, none⟩ x rs)
    (h1 : ¬ (ex = true ∧ x % m ≠ 0)) (h2 : 0 < x / m) (hu : u.length ≤ 100) (hr : rs.length ≤ 10000) :
    Calls Tryz.prog 178 #[.string ⟨u.toArray⟩, .int .i64 m, .bool ex, .pointer (some ⟨B, 0, none⟩), .pointer (some ⟨B + 1, 0, none⟩)] w fun e w' =>
      e = .returned (.tuple #[]) ∧ Held w' ⟨B, 0, none⟩ ⟨B + 1, 0, none⟩ (x - x / m * m) (rs ++ (Lib.itoa (x / m) ++ u)) ∧ Below B w w' := by
  have HG := Aside0.mk hg
  have HH := Aside0.mk hh
  have hmc := hh.m
  have p1 : 0 ≤ x / m * m := Int.mul_nonneg (by omega) (by omega)
  have p2 : x / m * m ≤ x := Int.ediv_mul_le x (by omega)
  have p3 : x / m ≤ x := Int.ediv_le_self m hx
  have hl := Lib.itoa_length_le (x / m) (by omega) (by omega)
  clear hg hh
  have s0 := HH.out.r
  have s1 := HH.out.rf
  cases ex
  all_goals
    first | (have c1 : (x % m != 0) = false := by rw [bne_eq_false_iff_eq]; simpa using h1) | skip
    clear h1
    go_enter Tryz.func178, Tryz.ntmps178
    go_wp2
    go_region_with (go_at_call 108; refine (format_calls _ (by omega) (by omega) _ ?_).mono ?_; (exact HG.out.next (below_drew (Below.refl _ _))); rintro e w' ⟨rfl, hb⟩; have HKB := Aside0.mk (below_step (below_drew (Below.refl w.heap.size w)) hb); clear hb; have hs1 := (HH.out.below HKB.out).r; have hs2 := (HH.out.below HKB.out).rf)
    all_goals
      have hs3 := (HH.out.below HKB.out).m
      have hs4 := (HH.out.below HKB.out).mf
      go_wp2
      go_end0
      have hBw : B ≤ w.heap.size := Nat.le_of_lt (World.block_lt_of_cell? w ⟨B, 0, none⟩ HH.out.m)
      refine ⟨rfl, ⟨?_, ?_, ?_, ?_⟩, ((HKB.out.mono hBw).setCell (p := ⟨B + 1, 0, none⟩) (Nat.le_succ B) _).setCell (p := ⟨B, 0, none⟩) (Nat.le_refl B) _⟩
      · simp [go_sem, hs3]
      · simp [go_sem, hs4]
      · simp [go_sem, hs1, ByteArray.mk_append_mk]
      · simp [go_sem, hs2]
end Go.Proofs.YtobbfenkdnaanaaGreatDoor
