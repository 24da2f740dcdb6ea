/- Durations: what holds of the program's variables; errors.New, unitOf and ParseUint by their contracts. -/
import Derived.Test.YtobbfenkdnaanaaGreatDoorSafe
import Derived.Test.YtobbfenkdnaanaaGreatDoorNum
import Derived.Test.YtobbfenkdnaanaaGreatDoorDurA
import Derived.WalkSmall
import Derived.Deep.LoopGhost
import Derived.Deep.QuietTactic
import Derived.BigQuiet
import Derived.Lib.LaidTab
import Derived.Lib.SmallJoins
set_option linter.unusedVariables false
set_option linter.unusedSimpArgs false
namespace Go.Proofs.YtobbfenkdnaanaaGreatDoor
open Go.RowKit

/-- The package-level variables of the library hold what the program's text lays. -/
structure Glob (w : World) : Prop where
  size : 15 ≤ w.heap.size
  pow : Lib.TabIs Tryz.prog w "internal/strconv.uint64pow10" .u64 Lib.pow10Tab
  syn : ∃ t p, w.var? Tryz.prog "strconv.ErrSyntax" = some #[.iface t p]
  rng : ∃ t p, w.var? Tryz.prog "strconv.ErrRange" = some #[.iface t p]
theorem g_pow : Tryz.prog.globalNamed "internal/strconv.uint64pow10" = some 3 := by kernel_rfl
theorem g_syn : Tryz.prog.globalNamed "strconv.ErrSyntax" = some 4 := by kernel_rfl
theorem g_rng : Tryz.prog.globalNamed "strconv.ErrRange" = some 5 := by kernel_rfl
theorem Glob.below {w w' : World} (h : Glob w) {B : Nat} (hB : 15 ≤ B) (hb : Below B w w') : Glob w' where
  size := Nat.le_trans h.size hb.size
  pow := var?_below hb g_pow (by omega) h.pow
  syn := by obtain ⟨t, p, hv⟩ := h.syn; exact ⟨t, p, var?_below hb g_syn (by omega) hv⟩
  rng := by obtain ⟨t, p, hv⟩ := h.rng; exact ⟨t, p, var?_below hb g_rng (by omega) hv⟩
theorem Glob.next {w w' : World} (h : Glob w) (hb : Below w.heap.size w w') : Glob w' := h.below h.size hb
theorem Glob.alloc {w : World} (h : Glob w) (o : Obj) : Glob (w.alloc o) := h.next ((Below.refl _ _).alloc (Nat.le_refl _) o)
theorem Glob.set {w : World} (h : Glob w) (p : Addr) (hp : 15 ≤ p.block) (u : Value) : Glob (w.setCell p u) := h.below hp ((Below.refl p.block w).setCell (Nat.le_refl _) u)

/-- An error that is not nil. -/
def IsErr (v : Value) : Prop := ∃ t x, v = .iface t x

set_option maxRecDepth 100000 in
theorem new_calls (s : ByteArray) (w : World) : Calls Tryz.prog 118 #[.string s] w fun e w' => ∃ v, e = .returned v ∧ IsErr v ∧ Below w.heap.size w w' := by
  go_enter Tryz.func118, Tryz.ntmps118
  go_wp2
  go_ret
  exact ⟨_, rfl, ⟨_, _, rfl⟩, (Below.refl _ _).alloc (Nat.le_refl _) _⟩

/-- What unitOf answers. -/
def UnitPost (u : List UInt8) (w : World) (e : Ending) (w' : World) : Prop :=
  (match Dur.unit u with
    | some (p, m) => e = .returned (.tuple #[.agg #[.int .i64 p, .int .u64 m], .bool true])
    | none => e = .returned (.tuple #[.agg #[.int .i64 0, .int .u64 0], .bool false])) ∧ Below w.heap.size w w'
set_option maxHeartbeats 4000000 in
set_option maxRecDepth 100000 in
theorem unit_calls (u : ByteArray) (w : World) : Calls Tryz.prog 177 #[.string u] w (UnitPost u.data.toList w) := by
  by_cases h0 : u.toList = [109, 115]
  · have b0 : (u.toList == [109, 115]) = true := beq_iff_eq.mpr h0
    have hu : Dur.unit u.data.toList = some (7, 1000000) := by rw [← ByteArray.toList_eq]; simp [Dur.unit, h0]
    clear h0
    have HU := Lib.hid hu; clear hu
    go_enter Tryz.func177, Tryz.ntmps177
    go_wp2
    refine bodyPost_ret (v := .tuple #[.agg #[.int .i64 7, .int .u64 1000000], .bool true]) (by simp [results, Tryz.results177, go_sem]) rfl ⟨by rw [HU.out]; rfl, ?_⟩
    exact ((Below.refl _ _).alloc (Nat.le_refl _) _)
  have b0 : (u.toList == [109, 115]) = false := beq_eq_false_iff_ne.mpr h0
  by_cases h1 : u.toList = [115]
  · have b1 : (u.toList == [115]) = true := beq_iff_eq.mpr h1
    have hu : Dur.unit u.data.toList = some (6, 1000000000) := by rw [← ByteArray.toList_eq]; simp [Dur.unit, h0, h1]
    clear h0 h1
    have HU := Lib.hid hu; clear hu
    go_enter Tryz.func177, Tryz.ntmps177
    go_wp2
    refine bodyPost_ret (v := .tuple #[.agg #[.int .i64 6, .int .u64 1000000000], .bool true]) (by simp [results, Tryz.results177, go_sem]) rfl ⟨by rw [HU.out]; rfl, ?_⟩
    exact ((Below.refl _ _).alloc (Nat.le_refl _) _)
  have b1 : (u.toList == [115]) = false := beq_eq_false_iff_ne.mpr h1
  by_cases h2 : u.toList = [109]
  · have b2 : (u.toList == [109]) = true := beq_iff_eq.mpr h2
    have hu : Dur.unit u.data.toList = some (5, 60000000000) := by rw [← ByteArray.toList_eq]; simp [Dur.unit, h0, h1, h2]
    clear h0 h1 h2
    have HU := Lib.hid hu; clear hu
    go_enter Tryz.func177, Tryz.ntmps177
    go_wp2
    refine bodyPost_ret (v := .tuple #[.agg #[.int .i64 5, .int .u64 60000000000], .bool true]) (by simp [results, Tryz.results177, go_sem]) rfl ⟨by rw [HU.out]; rfl, ?_⟩
    exact ((Below.refl _ _).alloc (Nat.le_refl _) _)
  have b2 : (u.toList == [109]) = false := beq_eq_false_iff_ne.mpr h2
  by_cases h3 : u.toList = [104]
  · have b3 : (u.toList == [104]) = true := beq_iff_eq.mpr h3
    have hu : Dur.unit u.data.toList = some (4, 3600000000000) := by rw [← ByteArray.toList_eq]; simp [Dur.unit, h0, h1, h2, h3]
    clear h0 h1 h2 h3
    have HU := Lib.hid hu; clear hu
    go_enter Tryz.func177, Tryz.ntmps177
    go_wp2
    refine bodyPost_ret (v := .tuple #[.agg #[.int .i64 4, .int .u64 3600000000000], .bool true]) (by simp [results, Tryz.results177, go_sem]) rfl ⟨by rw [HU.out]; rfl, ?_⟩
    exact ((Below.refl _ _).alloc (Nat.le_refl _) _)
  have b3 : (u.toList == [104]) = false := beq_eq_false_iff_ne.mpr h3
  by_cases h4 : u.toList = [100]
  · have b4 : (u.toList == [100]) = true := beq_iff_eq.mpr h4
    have hu : Dur.unit u.data.toList = some (3, 86400000000000) := by rw [← ByteArray.toList_eq]; simp [Dur.unit, h0, h1, h2, h3, h4]
    clear h0 h1 h2 h3 h4
    have HU := Lib.hid hu; clear hu
    go_enter Tryz.func177, Tryz.ntmps177
    go_wp2
    refine bodyPost_ret (v := .tuple #[.agg #[.int .i64 3, .int .u64 86400000000000], .bool true]) (by simp [results, Tryz.results177, go_sem]) rfl ⟨by rw [HU.out]; rfl, ?_⟩
    exact ((Below.refl _ _).alloc (Nat.le_refl _) _)
  have b4 : (u.toList == [100]) = false := beq_eq_false_iff_ne.mpr h4
  by_cases h5 : u.toList = [119]
  · have b5 : (u.toList == [119]) = true := beq_iff_eq.mpr h5
    have hu : Dur.unit u.data.toList = some (2, 604800000000000) := by rw [← ByteArray.toList_eq]; simp [Dur.unit, h0, h1, h2, h3, h4, h5]
    clear h0 h1 h2 h3 h4 h5
    have HU := Lib.hid hu; clear hu
    go_enter Tryz.func177, Tryz.ntmps177
    go_wp2
    refine bodyPost_ret (v := .tuple #[.agg #[.int .i64 2, .int .u64 604800000000000], .bool true]) (by simp [results, Tryz.results177, go_sem]) rfl ⟨by rw [HU.out]; rfl, ?_⟩
    exact ((Below.refl _ _).alloc (Nat.le_refl _) _)
  have b5 : (u.toList == [119]) = false := beq_eq_false_iff_ne.mpr h5
  by_cases h6 : u.toList = [121]
  · have b6 : (u.toList == [121]) = true := beq_iff_eq.mpr h6
    have hu : Dur.unit u.data.toList = some (1, 31536000000000000) := by rw [← ByteArray.toList_eq]; simp [Dur.unit, h0, h1, h2, h3, h4, h5, h6]
    clear h0 h1 h2 h3 h4 h5 h6
    have HU := Lib.hid hu; clear hu
    go_enter Tryz.func177, Tryz.ntmps177
    go_wp2
    refine bodyPost_ret (v := .tuple #[.agg #[.int .i64 1, .int .u64 31536000000000000], .bool true]) (by simp [results, Tryz.results177, go_sem]) rfl ⟨by rw [HU.out]; rfl, ?_⟩
    exact ((Below.refl _ _).alloc (Nat.le_refl _) _)
  have b6 : (u.toList == [121]) = false := beq_eq_false_iff_ne.mpr h6
  have hu : Dur.unit u.data.toList = none := by rw [← ByteArray.toList_eq]; simp [Dur.unit, h0, h1, h2, h3, h4, h5, h6]
  clear h0 h1 h2 h3 h4 h5 h6
  have HU := Lib.hid hu; clear hu
  go_enter Tryz.func177, Tryz.ntmps177
  go_wp2
  refine bodyPost_ret (v := .tuple #[.agg #[.int .i64 0, .int .u64 0], .bool false]) (by simp [results, Tryz.results177, go_sem]) rfl ⟨by rw [HU.out], ?_⟩
  exact ((Below.refl _ _).alloc (Nat.le_refl _) _)
/-- What strconv.ParseUint(s, 10, 0) answers. -/
def ParseUintPost (s : ByteArray) (w : World) (e : Ending) (w' : World) : Prop :=
  (match Lib.parseUintB 64 s.data.toList with
    | .ok u => e = .returned (.tuple #[.int .u64 (u : Int), .nilIface])
    | _ => ∃ n v, IsErr v ∧ e = .returned (.tuple #[.int .u64 n, v])) ∧ Below w.heap.size w w'
theorem parseUint_calls (s : ByteArray) (hs : s.size ≤ 281474976710656) (w : World) (hg : Glob w) :
    Calls Tryz.prog 158 #[.string s, .int .i64 10, .int .i64 0] w (ParseUintPost s w) := by
  rcases h : Lib.parseUintB 64 s.data.toList with u | _ | _
  · refine (Tryz.strconv_ParseUint_10_at0_ok s (by omega) u h w).mono ?_
    rintro e w' ⟨rfl, hw⟩
    refine ⟨by rw [h], ?_⟩
    rcases hw with rfl | rfl
    · exact Below.refl _ _
    · exact Lib.bytesWorld_below _ _ _
  · obtain ⟨t, p, hv⟩ := hg.syn
    refine (Any.strconv_ParseUint_10_at0_syntax_var Tryz.laysPu14 s hs h t p w hv).mono ?_
    rintro e w' ⟨N, rfl, _, _, hb⟩
    exact ⟨by rw [h]; exact ⟨_, _, ⟨_, _, rfl⟩, rfl⟩, hb⟩
  · obtain ⟨t, p, hv⟩ := hg.rng
    refine (Any.strconv_ParseUint_10_at0_range_var Tryz.laysPu14 s hs h t p w hv).mono ?_
    rintro e w' ⟨N, rfl, _, _, hb⟩
    exact ⟨by rw [h]; exact ⟨_, _, ⟨_, _, rfl⟩, rfl⟩, hb⟩
theorem parseUint_ok (s : ByteArray) (hs : s.size ≤ 281474976710656) (u : Nat) (h : Lib.parseUintB 64 s.data.toList = .ok u) (w : World) (hg : Glob w) :
    Calls Tryz.prog 158 #[.string s, .int .i64 10, .int .i64 0] w fun e w' => e = .returned (.tuple #[.int .u64 (u : Int), .nilIface]) ∧ Below w.heap.size w w' := by
  refine (parseUint_calls s hs w hg).mono ?_
  rintro e w' ⟨he, hb⟩
  rw [h] at he
  exact ⟨he, hb⟩
theorem parseUint_err (s : ByteArray) (hs : s.size ≤ 281474976710656) (h : ∀ u, Lib.parseUintB 64 s.data.toList ≠ .ok u) (w : World) (hg : Glob w) :
    Calls Tryz.prog 158 #[.string s, .int .i64 10, .int .i64 0] w fun e w' => ∃ n t x, e = .returned (.tuple #[.int .u64 n, .iface t x]) ∧ Below w.heap.size w w' := by
  refine (parseUint_calls s hs w hg).mono ?_
  rintro e w' ⟨he, hb⟩
  rcases hc : Lib.parseUintB 64 s.data.toList with u | _ | _
  · exact absurd hc (h u)
  · rw [hc] at he; obtain ⟨n, v, ⟨t, x, rfl⟩, rfl⟩ := he; exact ⟨n, t, x, rfl, hb⟩
  · rw [hc] at he; obtain ⟨n, v, ⟨t, x, rfl⟩, rfl⟩ := he; exact ⟨n, t, x, rfl, hb⟩
theorem new_err (s : ByteArray) (w : World) : Calls Tryz.prog 118 #[.string s] w fun e w' => ∃ t x, e = .returned (.iface t x) ∧ Below w.heap.size w w' := by
  refine (new_calls s w).mono ?_
  rintro e w' ⟨v, rfl, ⟨t, x, rfl⟩, hb⟩
  exact ⟨t, x, rfl, hb⟩
theorem unit_ok (u : ByteArray) (p m : Nat) (h : Dur.unit u.data.toList = some (p, m)) (w : World) : Calls Tryz.prog 177 #[.string u] w fun e w' =>
    e = .returned (.tuple #[.agg #[.int .i64 (p : Int), .int .u64 (m : Int)], .bool true]) ∧ Below w.heap.size w w' := by
  refine (unit_calls u w).mono ?_
  rintro e w' ⟨he, hb⟩
  rw [h] at he
  exact ⟨he, hb⟩
theorem unit_no (u : ByteArray) (h : Dur.unit u.data.toList = none) (w : World) : Calls Tryz.prog 177 #[.string u] w fun e w' =>
    e = .returned (.tuple #[.agg #[.int .i64 0, .int .u64 0], .bool false]) ∧ Below w.heap.size w w' := by
  refine (unit_calls u w).mono ?_
  rintro e w' ⟨he, hb⟩
  rw [h] at he
  exact ⟨he, hb⟩
end Go.Proofs.YtobbfenkdnaanaaGreatDoor
