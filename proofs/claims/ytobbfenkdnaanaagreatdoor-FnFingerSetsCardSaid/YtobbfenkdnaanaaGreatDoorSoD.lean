/- slices' breaking of patterns over 13 to 49 numbers, by contract: what lies between the two bounds is exchanged among itself. -/
import Derived.Test.YtobbfenkdnaanaaGreatDoorSoA
import Derived.Test.YtobbfenkdnaanaaGreatDoorLen
import Derived.Laws.Bits64
import Derived.Laws.Bits64b
import Derived.BigRegion
import Derived.IntWalk
set_option linter.unusedVariables false
set_option linter.unusedSimpArgs false
namespace Go.Proofs.YtobbfenkdnaanaaGreatDoor
open Go.RowKit Go.Sort

theorem store_store (w : World) (blk : Nat) (v v' : Value) : (w.setCell ⟨blk, 0, none⟩ v).setCell ⟨blk, 0, none⟩ v' = w.setCell ⟨blk, 0, none⟩ v' := by
  rw [setCell_eq, setCell_eq, mapBlock_mapBlock, setCell_eq]
  congr 1
  funext c
  simp

theorem xnext_u (rb X : Nat) (hX : X < 18446744073709551616) (w : World) (hc : w.cell? ⟨rb, 0, none⟩ = some (.int .u64 X)) (hf : w.frozen? ⟨rb, 0, none⟩ = false) :
    Calls Tryz.prog 240 #[.pointer (some ⟨rb, 0, none⟩)] w fun e w' => ∃ Y q : Nat, Y < 18446744073709551616 ∧ e = .returned (.int .u64 Y) ∧ w' = (w.setCell ⟨rb, 0, none⟩ (.int .u64 Y)).drewN q := by
  obtain ⟨A, hA⟩ : ∃ A : Nat, A = X ^^^ (X * 8192 % 18446744073709551616) := ⟨_, rfl⟩
  obtain ⟨B, hB⟩ : ∃ B : Nat, B = A ^^^ (A / 128) := ⟨_, rfl⟩
  obtain ⟨C, hC⟩ : ∃ C : Nat, C = B ^^^ (B * 131072 % 18446744073709551616) := ⟨_, rfl⟩
  have lA : A < 18446744073709551616 := by rw [hA]; exact Nat.xor_lt_two_pow (n := 64) (by omega) (by omega)
  have lB : B < 18446744073709551616 := by rw [hB]; exact Nat.xor_lt_two_pow (n := 64) (by omega) (by omega)
  have lC : C < 18446744073709551616 := by rw [hC]; exact Nat.xor_lt_two_pow (n := 64) (by omega) (by omega)
  have e1 : bits .xor .u64 (X : Int) (IntKind.u64.wrap ((X : Int) * 8192)) = (A : Int) := by
    rw [IntKind.wrap_u64, show ((X : Int) * 8192 % 18446744073709551616) = ((X * 8192 % 18446744073709551616 : Nat) : Int) by omega, bits_xor_u64_nat _ _ hX (by omega), hA]
  have e2 : bits .xor .u64 (A : Int) ((A : Int) / 128) = (B : Int) := by
    rw [show ((A : Int) / 128) = ((A / 128 : Nat) : Int) by omega, bits_xor_u64_nat _ _ lA (by omega), hB]
  have e3 : bits .xor .u64 (B : Int) (IntKind.u64.wrap ((B : Int) * 131072)) = (C : Int) := by
    rw [IntKind.wrap_u64, show ((B : Int) * 131072 % 18446744073709551616) = ((B * 131072 % 18446744073709551616 : Nat) : Int) by omega, bits_xor_u64_nat _ _ lB (by omega), hC]
  clear hA hB hC
  have hss : ∀ v v', (w.setCell ⟨rb, 0, none⟩ v).setCell ⟨rb, 0, none⟩ v' = w.setCell ⟨rb, 0, none⟩ v' := store_store w rb
  go_enter Tryz.func240, Tryz.ntmps240
  go_wp2
  go_region
  all_goals go_wp2
  all_goals go_region
  all_goals go_wp2
  all_goals go_region
  all_goals go_wp2
  go_ret
  exact ⟨C, 3, lC, rfl, rfl⟩

/-- The least power of two above a length. -/
theorem pow_len : ∀ L : Nat, L < 64 → 8 ≤ L → Lib.bitLen L ≤ 6 ∧ 2 ^ Lib.bitLen L ≤ 2 * L := by decide

theorem npow_u (L : Nat) (h8 : 8 ≤ L) (h64 : L < 64) (w : World) :
    Calls Tryz.prog 239 #[.int .i64 L] w fun e w' => e = .returned (.int .u64 ((2 ^ Lib.bitLen L : Nat) : Int)) ∧ w' = w := by
  have hb := fun w => Tryz.bits_Len (L : Int) w (by omega) (by omega)
  rw [Int.toNat_natCast] at hb
  obtain ⟨h6, h2⟩ := pow_len L h64 h8
  have hp : IntKind.u64.wrap ((2 : Int) ^ Lib.bitLen L) = ((2 ^ Lib.bitLen L : Nat) : Int) := by
    rw [IntKind.wrap_u64, show ((2 : Int) ^ Lib.bitLen L) = ((2 ^ Lib.bitLen L : Nat) : Int) by push_cast; rfl]
    generalize (2 : Nat) ^ Lib.bitLen L = p at h2
    omega
  go_enter Tryz.func239, Tryz.ntmps239
  go_wp2_with (go_at_call 68; refine (hb _).mono ?_; rintro e w' ⟨rfl, rfl⟩)
  go_ret
  exact ⟨rfl, rfl⟩

theorem box_cell (X : World) (v : Value) (T : TypeId) : (grow X #[Obj.cells #[v] T]).cell? ⟨X.heap.size, 0, none⟩ = some v := by
  rw [← alloc_eq_grow, World.cell?_alloc_at _ _ _ _ rfl]; rfl
theorem box_free (X : World) (v : Value) (T : TypeId) : (grow X #[Obj.cells #[v] T]).frozen? ⟨X.heap.size, 0, none⟩ = false := by
  rw [← alloc_eq_grow, World.frozen?_alloc_at _ _ _ _ rfl]
theorem store_grow (X : World) (os : Array Obj) (blk off : Nat) (v : Value) (h : blk < X.heap.size) : (grow X os).setCell ⟨blk, off, none⟩ v = grow (X.setCell ⟨blk, off, none⟩ v) os := by
  rw [setCell_eq, setCell_eq, mapBlock_grow _ _ _ _ h]
theorem store_box (X : World) (u v : Value) (T : TypeId) : (grow X #[Obj.cells #[u] T]).setCell ⟨X.heap.size, 0, none⟩ v = grow X #[Obj.cells #[v] T] := by
  rw [setCell_eq, mapBlock_grow_new _ _ _ _ (Nat.le_refl _)]
  simp [onCells]
/-- One round: the generator's cell is stored into, q draws, two numbers are exchanged. -/
theorem break_world (w : World) (n q blk off : Nat) (d : Array Int) (j k : Nat) (hblk : blk < w.heap.size) (hj : j < d.size) (hk : k < d.size) (u v : Value) (T : TypeId) :
    ((((grow (putRow U64 (Sort.ahead w n) blk off d) #[Obj.cells #[u] T]).setCell ⟨w.heap.size, 0, none⟩ v).drewN q).setCell ⟨blk, off + j, none⟩ (.int .u64 d[k]!)).setCell ⟨blk, off + k, none⟩ (.int .u64 d[j]!) =
      grow (putRow U64 (Sort.ahead w (n + q)) blk off (swp d j k)) #[Obj.cells #[v] T] := by
  have hz : (putRow U64 (Sort.ahead w n) blk off d).heap.size = w.heap.size := by simp
  rw [← hz, store_box, show (grow (putRow U64 (Sort.ahead w n) blk off d) #[Obj.cells #[v] T]).drewN q = grow ((putRow U64 (Sort.ahead w n) blk off d).drewN q) #[Obj.cells #[v] T] from rfl, row_drewN,
    store_grow _ _ _ _ _ (by simpa using hblk), store_grow _ _ _ _ _ (by simpa using hblk)]
  exact congrArg (fun x => grow x _) (putRow_swp U64 _ blk off d j k hj hk)

set_option maxHeartbeats 2000000 in
set_option maxRecDepth 100000 in
theorem break_u (blk off cap a b : Nat) (d : Array Int) (n : Nat) (hn : d.size = n) (w : World) (hH : Holds U64 w blk off d) (hblk : blk < w.heap.size) (hab : a + 13 ≤ b) (h49 : b ≤ a + 49) (hb : b ≤ d.size) (hsz : n ≤ 1000000) :
    Calls Tryz.prog 187 #[.slice (some ⟨blk, off, none⟩) n cap, .int .i64 a, .int .i64 b] w fun e w' =>
      e = .returned (.tuple #[]) ∧ ∃ d', PermIn a b d d' ∧ ∃ n os, w' = grow (putRow U64 (Sort.ahead w n) blk off d') os := by
  subst hn
  obtain ⟨L, hL⟩ : ∃ L, b = a + L := ⟨b - a, by omega⟩
  obtain ⟨M, hM⟩ : ∃ M : Nat, M = 2 ^ Lib.bitLen L := ⟨_, rfl⟩
  have hM1 : 1 ≤ M := by rw [hM]; exact Nat.two_pow_pos _
  have hM2 : M ≤ 2 * L := by rw [hM]; exact (pow_len L (by omega) (by omega)).2
  have hNP : ∀ w, Calls Tryz.prog 239 #[.int .i64 (L : Int)] w fun e w' => e = .returned (.int .u64 (M : Int)) ∧ w' = w := by rw [hM]; exact fun w => npow_u L (by omega) (by omega) w
  clear hM
  obtain ⟨I0, hI0⟩ : ∃ I0, I0 + 1 = a + L / 4 * 2 := ⟨a + L / 4 * 2 - 1, by omega⟩
  have hIb : a + 5 ≤ I0 ∧ I0 + 5 ≤ b := by omega
  have hLi : (b : Int) - (a : Int) = (L : Int) := by omega
  have w1 : wrap64 ((a : Int) + (L : Int) / 4 * 2) = (I0 : Int) + 1 := by rw [IntWalk.wrap64_in _ (by omega)]; omega
  have h8 : (8 : Int) ≤ (L : Int) := by omega
  have HH := Lib.hid hH
  have HST := Lib.hid (show w.alloc (Obj.cells #[.int .u64 (L : Int)] 274) = grow (putRow U64 (Sort.ahead w 0) blk off d) #[Obj.cells #[.int .u64 (L : Int)] 274] by
    rw [show Sort.ahead w 0 = w from rfl, putRow_self _ _ _ _ _ hH, alloc_eq_grow])
  have hLb : L ≤ 49 := by omega
  have HBL := Lib.hid hL
  have HI0 := Lib.hid hI0
  clear hH hI0 hL
  go_enter Tryz.func187, Tryz.ntmps187
  go_wp2_with (go_at_call 239; refine (hNP _).mono ?_; rintro e w' ⟨rfl, rfl⟩)
  go_loopw [9] (fun vi wr => ∃ (t n r : Nat) (dk : Array Int), vi = .int .i64 ((I0 + t : Nat) : Int) ∧ t ≤ 3 ∧ r < 18446744073709551616 ∧
      wr = grow (putRow U64 (Sort.ahead w n) blk off dk) #[Obj.cells #[.int .u64 (r : Int)] 274] ∧ PermIn a b d dk) (fun vi _ => I0 + 4 - (intOf vi).toNat)
  case atStart => exact ⟨0, 0, L, d, by (congr 1; have := HI0.out; omega), by omega, by omega, HST.out, permIn_refl d a b⟩
  case round =>
    obtain ⟨t, n, R, dk, rfl, ht, lR, hw, hP⟩ := hrel
    obtain ⟨G, hG⟩ : ∃ G : Nat → Int, ∀ x, G x = dk[x]! := ⟨fun x => dk[x]!, fun _ => rfl⟩
    have hsk : dk.size = d.size := hP.1
    have hz : (putRow U64 (Sort.ahead w n) blk off dk).heap.size = w.heap.size := by simp
    have hcw : ∀ x, x < d.size → wr.cell? ⟨blk, off + x, none⟩ = some (.int .u64 (G x)) := fun x hx => by
      rw [hw, cell?_grow _ _ _ (by rw [hz]; exact hblk), hG]; exact cell?_putRow _ _ _ _ d dk (holds_ahead _ _ _ _ _ _ HH.out) hsk x (by omega)
    have hfw : ∀ x, x < d.size → wr.frozen? ⟨blk, off + x, none⟩ = false := fun x hx => by
      rw [hw, frozen?_grow _ _ _ (by rw [hz]; exact hblk), frozen?_putRow]; exact ((holds_ahead _ _ n _ _ _ HH.out) x hx).2
    have hcB : wr.cell? ⟨w.heap.size, 0, none⟩ = some (.int .u64 (R : Int)) := by rw [hw, ← hz]; exact box_cell _ _ _
    have hfB : wr.frozen? ⟨w.heap.size, 0, none⟩ = false := by rw [hw, ← hz]; exact box_free _ _ _
    have hNext := xnext_u w.heap.size R lR wr hcB hfB
    have HN := Lib.hid hNext
    have HW := Lib.hid hw
    have HG := Lib.hid hG
    have HP := Lib.hid hP
    have HB2 := Lib.hid (⟨hM2, HBL.out⟩ : M ≤ 2 * L ∧ b = a + L)
    clear hw hG hP hNext hz
    by_cases ht3 : t < 3
    · have hle : (I0 : Int) + t ≤ (a : Int) + (L : Int) / 4 * 2 + 1 := by have := HI0.out; omega
      have hLb2 : L ≤ 49 := hLb
      go_wp2_with (go_at_call 240; refine HN.out.mono ?_; rintro e w' ⟨Y, q, lY, rfl, rfl⟩; obtain ⟨O, hO⟩ : ∃ O : Nat, O = Y &&& (M - 1) := ⟨_, rfl⟩; have lO : O ≤ M - 1 := (by rw [hO]; exact Nat.and_le_right); have eAnd : bits .and .u64 (Y : Int) ((M : Int) - 1) = (O : Int) := (by rw [show ((M : Int) - 1) = ((M - 1 : Nat) : Int) by omega, bits_and_u64_nat _ _ lY (by omega), hO]); clear hO)
      · have hLO : L ≤ O := by omega
        have hOb : O - L < L := by have := HB2.out.1; omega
        by_cases hEq : I0 + t = a + (O - L)
        all_goals
          go_region
          all_goals go_wp2
          go_roundw
          case rel =>
            refine ⟨t + 1, n + (q + 1), Y, swp dk (I0 + t) (a + (O - L)), by first | rfl | (congr 1 <;> omega), by omega, lY, ?_, permIn_trans _ _ _ _ _ HP.out (swp_permIn dk a b _ _ (by omega) (by omega) (by omega) (by have := HB2.out.2; omega) (by omega))⟩
            (try rw [hEq])
            rw [HW.out]
            simp only [HG.out]
            exact break_world w n (q + 1) blk off dk _ _ hblk (by have := HB2.out.2; omega) (by have := HB2.out.2; omega) _ _ _
          case measure => simp [intOf]; omega
      · have hLO : ¬ L ≤ O := by omega
        by_cases hEq : I0 + t = a + O
        all_goals
          go_region
          all_goals go_wp2
          go_roundw
          case rel =>
            refine ⟨t + 1, n + (q + 1), Y, swp dk (I0 + t) (a + O), by first | rfl | (congr 1 <;> omega), by omega, lY, ?_, permIn_trans _ _ _ _ _ HP.out (swp_permIn dk a b _ _ (by omega) (by omega) (by omega) (by have := HB2.out.2; omega) (by omega))⟩
            (try rw [hEq])
            rw [HW.out]
            simp only [HG.out]
            exact break_world w n (q + 1) blk off dk _ _ hblk (by have := HB2.out.2; omega) (by have := HB2.out.2; omega) _ _ _
          case measure => simp [intOf]; omega
    · have hle : ¬ ((I0 : Int) + t ≤ (a : Int) + (L : Int) / 4 * 2 + 1) := by have := HI0.out; omega
      go_wp2_with fail
      go_end0
      obtain ⟨q, hq⟩ : ∃ q, q = n := ⟨_, rfl⟩
      exact ⟨rfl, dk, HP.out, n, _, HW.out⟩
end Go.Proofs.YtobbfenkdnaanaaGreatDoor
