/- The choice of a pivot among 13 to 49 different numbers, by contract: a place whose number lies between two others. -/
import Derived.Test.YtobbfenkdnaanaaGreatDoorSoB
import Derived.IntWalk
set_option linter.unusedVariables false
set_option linter.unusedSimpArgs false
namespace Go.Proofs.YtobbfenkdnaanaaGreatDoor
open Go.RowKit Go.Sort

theorem median_i (d : Array Int) (n : Nat) (hn : d.size = n) (blk off cap : Nat) (zi zj zk : Int) (i j k sb s : Nat) (w : World) (hi : zi = (i : Nat)) (hj : zj = (j : Nat)) (hk : zk = (k : Nat))
    (hH : Holds U64 w blk off d) (ha : i < d.size) (hb : j < d.size) (hc : k < d.size) (hsz : n ≤ 1000000) (hne : sb ≠ blk)
    (hS : Holds I64 w sb 0 (cnt s)) (hs : s ≤ 900) :
    Calls Tryz.prog 242 #[.slice (some ⟨blk, off, none⟩) n cap, .int .i64 zi, .int .i64 zj, .int .i64 zk, .pointer (some ⟨sb, 0, none⟩)] w fun e w' =>
      e = .returned (.int .i64 (median ltInt d i j k s).1) ∧ ∃ n, w' = putRow I64 (Sort.ahead w n) sb 0 (cnt (median ltInt d i j k s).2) := by
  subst hi hj hk
  exact median_u d n hn blk off cap i j k sb s w hH ha hb hc hsz hne hS hs

theorem cnt_new (w : World) (n t : Nat) : ∃ os, putRow I64 (Sort.ahead (w.alloc (.cells #[.int .i64 0] 3)) n) w.heap.size 0 (cnt t) = grow (Sort.ahead w n) os := by
  rw [alloc_eq_grow, ahead_grow]
  obtain ⟨os, _, h⟩ := putRow_grow_new I64 (Sort.ahead w n) #[.cells #[.int .i64 0] 3] w.heap.size 0 (cnt t) (Nat.le_refl _)
  exact ⟨os, h⟩

/-- What a pivot's choice hands on. -/
def Chosen (a b : Nat) (d : Array Int) (w : World) (e : Ending) (w' : World) : Prop :=
  ∃ p h : Nat, e = .returned (.tuple #[.int .i64 p, .int .i64 h]) ∧ (a ≤ p ∧ p < b) ∧ h ≤ 1 ∧ (∃ x, a ≤ x ∧ x < b ∧ d[x]! < d[p]!) ∧ (∃ y, a ≤ y ∧ y < b ∧ d[p]! < d[y]!) ∧ ∃ n os, w' = grow (Sort.ahead w n) os

set_option maxHeartbeats 1000000 in
theorem pivot_u (d : Array Int) (n : Nat) (hn : d.size = n) (blk off cap a b : Nat) (w : World) (hH : Holds U64 w blk off d) (hblk : blk < w.heap.size) (hab : a + 13 ≤ b) (h49 : b ≤ a + 49) (hb : b ≤ d.size) (hsz : n ≤ 1000000) (hN : Nod a b d) :
    Calls Tryz.prog 188 #[.slice (some ⟨blk, off, none⟩) n cap, .int .i64 a, .int .i64 b] w (Chosen a b d w) := by
  obtain ⟨i, hi⟩ : ∃ i, i = a + (b - a) / 4 * 1 := ⟨_, rfl⟩
  obtain ⟨j, hj⟩ : ∃ j, j = a + (b - a) / 4 * 2 := ⟨_, rfl⟩
  obtain ⟨k, hk⟩ : ∃ k, k = a + (b - a) / 4 * 3 := ⟨_, rfl⟩
  have hm := median_mid d i j k 0 (hN i j (by omega) (by omega) (by omega) (by omega) (by omega)) (hN j k (by omega) (by omega) (by omega) (by omega) (by omega)) (hN i k (by omega) (by omega) (by omega) (by omega) (by omega))
  have hc := median_cnt d i j k 0
  have hH1 : Holds U64 (w.alloc (.cells #[.int .i64 0] 3)) blk off d := by rw [alloc_eq_grow]; exact holds_grow _ _ _ _ _ _ hblk hH
  have hS1 : Holds I64 (w.alloc (.cells #[.int .i64 0] 3)) w.heap.size 0 (cnt 0) := fun t ht => by
    have ht0 : t = 0 := by simp at ht; omega
    subst ht0
    simp
  obtain ⟨p, hp⟩ : ∃ p, p = (median ltInt d i j k 0).1 := ⟨_, rfl⟩
  obtain ⟨s, hs⟩ : ∃ s, s = (median ltInt d i j k 0).2 := ⟨_, rfl⟩
  have K := fun zi zj zk hi hj hk => median_i d n hn blk off cap zi zj zk i j k w.heap.size 0 (w.alloc (.cells #[.int .i64 0] 3)) hi hj hk hH1 (by omega) (by omega) (by omega) hsz (by omega) hS1 (by omega)
  rw [← hp, ← hs] at K
  have HP := Lib.hid (⟨by rw [hp]; exact hm, by rw [hs]; omega⟩ : ((p = i ∨ p = j ∨ p = k) ∧ (∃ x, (x = i ∨ x = j ∨ x = k) ∧ d[x]! < d[p]!) ∧ (∃ y, (y = i ∨ y = j ∨ y = k) ∧ d[p]! < d[y]!)) ∧ s ≤ 3)
  clear hm hc hp hs
  have HSZ := Lib.hid (by omega : b ≤ 1000000)
  have HI := Lib.hid (⟨hi, hj, hk⟩ : i = a + (b - a) / 4 * 1 ∧ j = a + (b - a) / 4 * 2 ∧ k = a + (b - a) / 4 * 3)
  have fin : ∀ (h n1 : Nat), h ≤ 1 → ∀ e w', e = .returned (.tuple #[.int .i64 p, .int .i64 h]) → w' = putRow I64 (Sort.ahead (w.alloc (.cells #[.int .i64 0] 3)) n1) w.heap.size 0 (cnt s) → Chosen a b d w e w' := by
    intro h n1 h1 e w' he hw
    obtain ⟨⟨q1, ⟨x, q2, q3⟩, ⟨y, q4, q5⟩⟩, _⟩ := HP.out
    obtain ⟨os, ho⟩ := cnt_new w n1 s
    have hr : ∀ z, (z = i ∨ z = j ∨ z = k) → a ≤ z ∧ z < b := fun z hz => by
      clear q1 q2 q3 q4 q5 ho hw he
      omega
    exact ⟨p, h, he, hr p q1, h1, ⟨x, (hr x q2).1, (hr x q2).2, q3⟩, ⟨y, (hr y q4).1, (hr y q4).2, q5⟩, n1, os, hw.trans ho⟩
  have FIN := Lib.hid fin
  have KK := Lib.hid K
  have HS1 := Lib.hid hS1
  clear K hi hj hk fin hH1 hS1 hH hN hn
  go_enter Tryz.func188, Tryz.ntmps188
  have w1 : wrap64 ((a : Int) + ((b : Int) - a) / 4) = (i : Int) := by rw [IntWalk.wrap64_in _ (by have := HSZ.out; omega)]; have := HI.out; omega
  have w2 : wrap64 ((a : Int) + ((b : Int) - a) / 4 * 2) = (j : Int) := by rw [IntWalk.wrap64_in _ (by have := HSZ.out; omega)]; have := HI.out; omega
  have w3 : wrap64 ((a : Int) + ((b : Int) - a) / 4 * 3) = (k : Int) := by rw [IntWalk.wrap64_in _ (by have := HSZ.out; omega)]; have := HI.out; omega
  have hl8 : (8 : Int) ≤ b - a := by omega
  have hl50 : ¬ ((50 : Int) ≤ b - a) := by omega
  have HS3 := Lib.hid HP.out.2
  have hd12 : ((s : Int) == 12) = false := by have := HS3.out; simp; omega
  by_cases hs0 : s = 0
  · subst hs0
    go_wp2_with (go_at_call 242; refine (KK.out _ _ _ rfl rfl rfl).mono ?_; rintro e w' ⟨rfl, n1, hw1⟩; have hc9 : w'.cell? ⟨w.heap.size, 0, none⟩ = some (.int .i64 (0 : Nat)) := (by rw [hw1]; exact (cnt_cell (cnt_holds HS1.out)).1); have HW := Lib.hid hw1; clear hw1)
    go_ret2
    exact FIN.out 1 n1 (Nat.le_refl _) _ _ rfl HW.out
  · have hd0 : ((s : Int) == 0) = false := by simp; omega
    go_wp2_with (go_at_call 242; refine (KK.out _ _ _ rfl rfl rfl).mono ?_; rintro e w' ⟨rfl, n1, hw1⟩; have hc9 : w'.cell? ⟨w.heap.size, 0, none⟩ = some (.int .i64 s) := (by rw [hw1]; exact (cnt_cell (cnt_holds HS1.out)).1); have HW := Lib.hid hw1; clear hw1)
    go_ret2
    exact FIN.out 0 n1 (by omega) _ _ rfl HW.out
end Go.Proofs.YtobbfenkdnaanaaGreatDoor
