/- The choice of a pivot among 13 to 49 different numbers, by contract: a place whose number lies between two others. -/
import Derived.Test.YtobbfenkdnaanaaGreatDoorSoA
import Derived.Sort.AtCall
import Derived.Deep.RegionWith
import Derived.Sort.LotD3
set_option linter.unusedVariables false
set_option linter.unusedSimpArgs false
namespace Go.Proofs.YtobbfenkdnaanaaGreatDoor
open Go.RowKit Go.Sort

/-- The counter of exchanges, as a row of one number. -/
abbrev I64 : Int → Value := .int .i64
abbrev cnt (s : Nat) : Array Int := #[(s : Int)]

theorem cnt_cell {w : World} {sb s : Nat} (h : Holds I64 w sb 0 (cnt s)) : w.cell? ⟨sb, 0, none⟩ = some (.int .i64 s) ∧ w.frozen? ⟨sb, 0, none⟩ = false := by simpa using h 0 (by simp)
theorem cnt_set {w : World} {sb s : Nat} (h : Holds I64 w sb 0 (cnt s)) (t : Nat) : w.setCell ⟨sb, 0, none⟩ (.int .i64 t) = putRow I64 w sb 0 (cnt t) := by
  have := putRow_set I64 w sb 0 (cnt s) 0 (t : Int) (by simp)
  rw [putRow_self _ _ _ _ _ h] at this
  simpa using this
theorem row_beside {w : World} {blk off sb n t : Nat} {d : Array Int} (h : Holds U64 w blk off d) (hne : sb ≠ blk) : Holds U64 (putRow I64 (Sort.ahead w n) sb 0 (cnt t)) blk off d := fun j hj =>
  ⟨by rw [cell?_putRow_other _ _ _ _ _ _ (Or.inl (Ne.symm hne))]; exact (h j hj).1, by rw [frozen?_putRow]; exact (h j hj).2⟩
theorem cnt_cnt (w : World) (n m sb s t : Nat) : putRow I64 (Sort.ahead (putRow I64 (Sort.ahead w n) sb 0 (cnt s)) m) sb 0 (cnt t) = putRow I64 (Sort.ahead w (n + m)) sb 0 (cnt t) :=
  putRow_ahead_putRow _ _ _ _ _ _ _ _ rfl
theorem cnt_holds {w : World} {sb s n t : Nat} (h : Holds I64 w sb 0 (cnt s)) : Holds I64 (putRow I64 (Sort.ahead w n) sb 0 (cnt t)) sb 0 (cnt t) :=
  holds_putRow _ _ _ _ (cnt s) (cnt t) (holds_ahead _ _ _ _ _ _ h) rfl

set_option maxHeartbeats 1000000 in
theorem order2_u (d : Array Int) (n : Nat) (hn : d.size = n) (blk off cap a b sb s : Nat) (w : World) (hH : Holds U64 w blk off d) (ha : a < d.size) (hb : b < d.size) (hsz : n ≤ 1000000)
    (hS : Holds I64 w sb 0 (cnt s)) (hs : s ≤ 1000) :
    Calls Tryz.prog 282 #[.slice (some ⟨blk, off, none⟩) n cap, .int .i64 a, .int .i64 b, .pointer (some ⟨sb, 0, none⟩)] w fun e w' =>
      e = .returned (.tuple #[.int .i64 (order2 ltInt d a b s).1, .int .i64 (order2 ltInt d a b s).2.1]) ∧ ∃ n, w' = putRow I64 (Sort.ahead w n) sb 0 (cnt (order2 ltInt d a b s).2.2) := by
  subst hn
  have ca := (hH a ha).1
  have cb := (hH b hb).1
  obtain ⟨cs, fs⟩ := cnt_cell hS
  generalize hA : d[a]! = A at ca
  generalize hB : d[b]! = B at cb
  have HA := Lib.hid hA
  have HB := Lib.hid hB
  have HS := Lib.hid hS
  clear hA hB hS hH
  go_enter Tryz.func282, Tryz.ntmps282
  go_wp2
  go_quiet ((go_at_call 191; refine Calls.quiet_of_same (less_u _ _ _)))
  go_wp2
  · have hlt : ltInt B A = true := by assumption
    have e2 : order2 ltInt d a b s = (b, a, s + 1) := by simp [order2, HA.out, HB.out, hlt]
    go_ret2
    rw [e2]
    refine ⟨rfl, nq, ?_⟩
    rw [putRow_ahead, ← cnt_set HS.out (s + 1)]
    rfl
  · have hlt : ltInt B A = false := by assumption
    have e2 : order2 ltInt d a b s = (a, b, s) := by simp [order2, HA.out, HB.out, hlt]
    go_ret2
    rw [e2]
    refine ⟨rfl, nq, ?_⟩
    rw [putRow_ahead, putRow_self _ _ _ _ _ HS.out]
    rfl

theorem order2_in (d : Array Int) {a b n : Nat} (s : Nat) (ha : a < n) (hb : b < n) : (order2 ltInt d a b s).1 < n ∧ (order2 ltInt d a b s).2.1 < n := by
  unfold order2; split <;> simp [ha, hb]
theorem order2_cnt (d : Array Int) (a b s : Nat) : (order2 ltInt d a b s).2.2 ≤ s + 1 := by
  unfold order2; split <;> simp

theorem median_cnt (d : Array Int) (a b c s : Nat) : (median ltInt d a b c s).2 ≤ s + 3 := by
  unfold median
  have h1 := order2_cnt d a b s
  have h2 := order2_cnt d (order2 ltInt d a b s).2.1 c (order2 ltInt d a b s).2.2
  have h3 := order2_cnt d (order2 ltInt d a b s).1 (order2 ltInt d (order2 ltInt d a b s).2.1 c (order2 ltInt d a b s).2.2).1 (order2 ltInt d (order2 ltInt d a b s).2.1 c (order2 ltInt d a b s).2.2).2.2
  show (order2 ltInt d (order2 ltInt d a b s).1 (order2 ltInt d (order2 ltInt d a b s).2.1 c (order2 ltInt d a b s).2.2).1 (order2 ltInt d (order2 ltInt d a b s).2.1 c (order2 ltInt d a b s).2.2).2.2).2.2 ≤ s + 3
  omega

set_option maxHeartbeats 1000000 in
theorem median_u (d : Array Int) (n : Nat) (hn : d.size = n) (blk off cap a b c sb s : Nat) (w : World) (hH : Holds U64 w blk off d) (ha : a < d.size) (hb : b < d.size) (hc : c < d.size) (hsz : n ≤ 1000000) (hne : sb ≠ blk)
    (hS : Holds I64 w sb 0 (cnt s)) (hs : s ≤ 900) :
    Calls Tryz.prog 242 #[.slice (some ⟨blk, off, none⟩) n cap, .int .i64 a, .int .i64 b, .int .i64 c, .pointer (some ⟨sb, 0, none⟩)] w fun e w' =>
      e = .returned (.int .i64 (median ltInt d a b c s).1) ∧ ∃ n, w' = putRow I64 (Sort.ahead w n) sb 0 (cnt (median ltInt d a b c s).2) := by
  obtain ⟨a1, b1, s1, e1⟩ : ∃ x y z, order2 ltInt d a b s = (x, y, z) := ⟨_, _, _, rfl⟩
  obtain ⟨b2, c2, s2, e2⟩ : ∃ x y z, order2 ltInt d b1 c s1 = (x, y, z) := ⟨_, _, _, rfl⟩
  obtain ⟨a3, b3, s3, e3⟩ : ∃ x y z, order2 ltInt d a1 b2 s2 = (x, y, z) := ⟨_, _, _, rfl⟩
  have em : median ltInt d a b c s = (b3, s3) := by unfold median; simp only [e1, e2, e3]
  have l1 := order2_in d s ha hb
  have t1 := order2_cnt d a b s
  rw [e1] at l1 t1
  have l2 := order2_in d s1 l1.2 hc
  have t2 := order2_cnt d b1 c s1
  rw [e2] at l2 t2
  have k1 := order2_u d n hn blk off cap a b sb s w hH ha hb hsz hS (by omega)
  rw [e1] at k1
  have k2 := fun m => order2_u d n hn blk off cap b1 c sb s1 (putRow I64 (Sort.ahead w m) sb 0 (cnt s1)) (row_beside hH hne) l1.2 hc hsz (cnt_holds hS) (by simp only at t1; omega)
  rw [e2] at k2
  have k3 := fun m => order2_u d n hn blk off cap a1 b2 sb s2 (putRow I64 (Sort.ahead w m) sb 0 (cnt s2)) (row_beside hH hne) l1.1 l2.1 hsz (cnt_holds hS) (by simp only at t1 t2; omega)
  rw [e3] at k3
  rw [em]
  clear e1 e2 e3 em l1 l2 t1 t2 hH hS ha hb hc hn
  go_enter Tryz.func242, Tryz.ntmps242
  go_wp2_with (go_at_call_of 282 (Value.int .i64 (b : Int)); refine k1.mono ?_; rintro e w' ⟨rfl, n1, rfl⟩)
  go_wp2_with (go_at_call_of 282 (Value.int .i64 (c : Int)); refine (k2 n1).mono ?_; rintro e w' ⟨rfl, n2, rfl⟩)
  rw [cnt_cnt]
  go_wp2_with (go_at_call_of 282 (Value.int .i64 (a1 : Int)); refine (k3 (n1 + n2)).mono ?_; rintro e w' ⟨rfl, n3, rfl⟩)
  rw [cnt_cnt]
  go_ret
  exact ⟨rfl, n1 + n2 + n3, rfl⟩
end Go.Proofs.YtobbfenkdnaanaaGreatDoor
