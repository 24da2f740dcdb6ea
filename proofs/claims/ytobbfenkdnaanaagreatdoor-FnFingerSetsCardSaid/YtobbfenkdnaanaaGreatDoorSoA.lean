/- slices' insertion sort over numbers of 64 bits without a sign, by contract: the row holds the insertion sort's. -/
import Derived.Test.YtobbfenkdnaanaaGreatDoorProg
import Derived.Test.YtobbfenkdnaanaaGreatDoorSoP
import Derived.Sort.Row
import Derived.Sort.Grow
import Derived.WalkKit
import Derived.RowKit
import Derived.BigGuard
import Derived.BigCall
import Derived.CellFam
import Derived.Lib.Hide
import Derived.Deep.Draws
import Derived.Deep.QuietTactic
import Derived.BigQuiet
import Derived.RegionTactic
import Derived.LoopTactic
set_option linter.unusedVariables false
set_option linter.unusedSimpArgs false
namespace Go.Proofs.YtobbfenkdnaanaaGreatDoor
open Go.RowKit Go.Sort

/-- A number as the row holds it. -/
abbrev U64 : Int → Value := .int .u64

theorem nan_u (x : Int) (w : World) : Calls Tryz.prog 243 #[.int .u64 x] w fun e w' => e = .returned (.bool false) ∧ w' = w := by
  go_enter Tryz.func243, Tryz.ntmps243
  go_wp2
  go_ret
  exact ⟨by simp, rfl⟩

theorem less_u (x y : Int) (w : World) : Calls Tryz.prog 191 #[.int .u64 x, .int .u64 y] w fun e w' => e = .returned (.bool (ltInt x y)) ∧ w' = w := by
  go_enter Tryz.func191, Tryz.ntmps191
  go_wp2_with (go_at_call 243; refine (nan_u _ _).mono ?_; rintro e w' ⟨rfl, rfl⟩)
  go_ret
  exact ⟨rfl, rfl⟩

section
variable (lt : Int → Int → Bool)
theorem inner_step (a j : Nat) (d : Array Int) (hj : a < j) (hl : lt d[j]! d[j - 1]! = true) : insInner lt a j d = insInner lt a (j - 1) (swp d j (j - 1)) := by
  cases j with
  | zero => omega
  | succ k =>
    rw [insInner]
    have h1 : k + 1 > a := hj
    have h2 : lt d[k + 1]! d[k]! = true := hl
    simp [h1, h2]
theorem inner_end (a j : Nat) (d : Array Int) (h : j ≤ a ∨ lt d[j]! d[j - 1]! = false) : insInner lt a j d = d := by
  cases j with
  | zero => rw [insInner]
  | succ k =>
    rw [insInner]
    rcases h with h | h
    · have h1 : ¬ k + 1 > a := by omega
      simp [h1]
    · have h2 : lt d[k + 1]! d[k]! = false := h
      simp [h2]
theorem outer_step (a b i : Nat) (d : Array Int) (h : i < b) : insOuter lt a b i d = insOuter lt a b (i + 1) (insInner lt a i d) := by rw [insOuter, if_pos h]
theorem outer_end (a b i : Nat) (d : Array Int) (h : ¬ i < b) : insOuter lt a b i d = d := by rw [insOuter, if_neg h]
end

theorem row_drewN (w : World) (m q blk off : Nat) (d : Array Int) : (putRow U64 (Sort.ahead w m) blk off d).drewN q = putRow U64 (Sort.ahead w (m + q)) blk off d := by
  show Sort.ahead (putRow U64 (Sort.ahead w m) blk off d) q = _
  rw [putRow_ahead U64 w m, ahead_ahead, ← putRow_ahead]
theorem row_swap (w : World) (m q blk off : Nat) (d : Array Int) (j k : Nat) (hj : j < d.size) (hk : k < d.size) :
    (((putRow U64 (Sort.ahead w m) blk off d).drewN q).setCell ⟨blk, off + j, none⟩ (.int .u64 d[k]!)).setCell ⟨blk, off + k, none⟩ (.int .u64 d[j]!) = putRow U64 (Sort.ahead w (m + q)) blk off (swp d j k) := by
  rw [row_drewN]
  exact putRow_swp U64 _ blk off d j k hj hk

/-- The row's cells in the world of a loop, under one name. -/
theorem row_cells {w wr : World} {blk off m n : Nat} {d dk : Array Int} (hH : Holds U64 w blk off d) (hs : dk.size = d.size) (hn : d.size = n) (hw : wr = putRow U64 (Sort.ahead w m) blk off dk) :
    (∀ t, t < n → wr.cell? ⟨blk, off + t, none⟩ = some (.int .u64 dk[t]!)) ∧ (∀ t, t < n → wr.frozen? ⟨blk, off + t, none⟩ = false) := by
  subst hn
  have h := holds_putRow U64 (Sort.ahead w m) blk off d dk (holds_ahead _ _ _ _ _ _ hH) hs
  rw [← hw] at h
  exact ⟨fun t ht => (h t (by omega)).1, fun t ht => (h t (by omega)).2⟩

set_option maxHeartbeats 2000000 in
theorem ins_u (blk off cap a b : Nat) (d : Array Int) (w : World) (hH : Holds U64 w blk off d) (hab : a ≤ b) (hb : b ≤ d.size) (hsz : d.size ≤ 1000000) :
    Calls Tryz.prog 185 #[.slice (some ⟨blk, off, none⟩) d.size cap, .int .i64 a, .int .i64 b] w fun e w' =>
      e = .returned (.tuple #[]) ∧ ∃ n, w' = putRow U64 (Sort.ahead w n) blk off (Sort.insertionSort ltInt d a b) := by
  go_enter Tryz.func185, Tryz.ntmps185
  go_wp2
  go_loopw [6] (fun vi wr => ∃ (i n : Nat) (dk : Array Int), vi = .int .i64 i ∧ a < i ∧ i ≤ b + 1 ∧ dk.size = d.size ∧ wr = putRow U64 (Sort.ahead w n) blk off dk ∧
      insOuter ltInt a b i dk = insOuter ltInt a b (a + 1) d) (fun vi _ => b + 1 - (intOf vi).toNat)
  case atStart => exact ⟨a + 1, 0, d, by go_num, by omega, by omega, rfl, (putRow_self _ _ _ _ _ hH).symm, rfl⟩
  case round =>
    obtain ⟨i, n, dk, rfl, hai, hib, hsk, hwr, hO⟩ := hrel
    have HO := Lib.hid hO
    clear hO
    by_cases hlt : i < b
    · go_wp2
      go_loopw [7] (fun vj wr2 => ∃ (j m : Nat) (dj : Array Int), vj = .int .i64 j ∧ a ≤ j ∧ j ≤ i ∧ dj.size = d.size ∧ wr2 = putRow U64 (Sort.ahead w m) blk off dj ∧
          insInner ltInt a j dj = insInner ltInt a i dk) (fun vj _ => (intOf vj).toNat)
      case atStart => exact ⟨i, n, dk, rfl, by omega, Nat.le_refl _, hsk, rfl, rfl⟩
      case round =>
        obtain ⟨j, m, dj, rfl, haj, hji, hsj, hw2, hI⟩ := hrel
        obtain ⟨hcw0, hfw⟩ := row_cells hH hsj rfl hw2
        obtain ⟨G, hG⟩ : ∃ G : Nat → Int, ∀ t, G t = dj[t]! := ⟨fun t => dj[t]!, fun _ => rfl⟩
        have hcw : ∀ t, t < d.size → wr.cell? ⟨blk, off + t, none⟩ = some (.int .u64 (G t)) := fun t ht => by rw [hG]; exact hcw0 t ht
        have HW := Lib.hid hw2
        have HG := Lib.hid hG
        have HI := Lib.hid hI
        have HH := Lib.hid hH
        clear hw2 hG hI hH hcw0
        have out : (j ≤ a ∨ ltInt dj[j]! dj[j - 1]! = false) → ∀ q, ∃ i' n' dk', Value.int .i64 ((i : Int) + 1) = .int .i64 (i' : Nat) ∧ a < i' ∧ i' ≤ b + 1 ∧ dk'.size = d.size ∧
            wr.drewN q = putRow U64 (Sort.ahead w n') blk off dk' ∧ insOuter ltInt a b i' dk' = insOuter ltInt a b (a + 1) d := fun hs q =>
          ⟨i + 1, m + q, dj, by go_num, by omega, by omega, hsj, by rw [HW.out]; exact row_drewN _ _ _ _ _ _,
            by rw [← HO.out, outer_step _ _ _ _ _ hlt, ← HI.out, inner_end _ _ _ _ hs]⟩
        have OUT := Lib.hid out
        clear out
        go_wp2
        by_cases hja : a < j
        · go_quiet ((go_at_call 191; refine Calls.quiet_of_same (less_u _ _ _)))
          go_wp2
          · have hl : ltInt (G j) (G (j - 1)) = true := by assumption
            go_region
            all_goals go_wp2
            go_roundw
            case rel =>
              refine ⟨j - 1, m + (nq + 1), swp dj j (j - 1), by congr 1; omega, by omega, by omega, by rw [size_swp]; exact hsj, ?_, ?_⟩
              · rw [HW.out, HG.out, HG.out]
                exact row_swap w m (nq + 1) blk off dj j (j - 1) (by omega) (by omega)
              · rw [← HI.out, inner_step ltInt a j dj hja (by rw [← HG.out, ← HG.out]; exact hl)]
            case measure => simp [intOf]; omega
          · have hl : ltInt (G j) (G (j - 1)) = false := by assumption
            go_roundw
            case rel => exact OUT.out (Or.inr (by rw [← HG.out, ← HG.out]; exact hl)) nq
            case measure => simp [intOf]; omega
        · go_quiet ((go_at_call 191; refine Calls.quiet_of_same (less_u _ _ _)))
          go_wp2
          go_roundw
          case rel => exact OUT.out (Or.inl (by omega)) nq
          case measure => simp [intOf]; omega
    · go_wp2
      go_end0
      refine ⟨rfl, n, ?_⟩
      unfold Sort.insertionSort
      rw [← HO.out, outer_end _ _ _ _ _ hlt]
end Go.Proofs.YtobbfenkdnaanaaGreatDoor
