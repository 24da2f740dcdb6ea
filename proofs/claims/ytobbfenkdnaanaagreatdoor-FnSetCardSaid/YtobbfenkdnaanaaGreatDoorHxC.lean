/- Sixteen digits at base 16 read back: ParseUint, FingerprintFromString, FingerprintRead, by contract. -/
import Derived.Test.YtobbfenkdnaanaaGreatDoorHxB
import Derived.Lib.ConvBytes
import Derived.Lib.AtoiErrMem
set_option linter.unusedVariables false
set_option linter.unusedSimpArgs false
namespace Go.Proofs.YtobbfenkdnaanaaGreatDoor
open Go.RowKit Go.Proofs

theorem hexW_range (k u : Nat) : ∀ x ∈ hexW k u, 0 ≤ x ∧ x < 256 := by
  induction k generalizing u with
  | zero => intro x hx; cases hx
  | succ k ih =>
    intro x hx
    simp only [hexW, List.mem_append, List.mem_singleton] at hx
    rcases hx with hx | rfl
    · exact ih _ x hx
    · have := hexD_range (u % 16) (Nat.mod_lt _ (by decide)); omega
theorem or32 (c : Nat) (h : c < 8) : bits BinOp.or IntKind.u8 ((97 + c : Nat) : Int) 32 = ((97 + c : Nat) : Int) := by
  have : ∀ c : Fin 8, bits BinOp.or IntKind.u8 ((97 + c.val : Nat) : Int) 32 = ((97 + c.val : Nat) : Int) := by decide
  exact this ⟨c, h⟩

set_option maxHeartbeats 3200000 in
set_option maxRecDepth 100000 in
theorem parse16_calls (u : Nat) (hu : u < 18446744073709551616) (w : World) :
    Calls Tryz.prog 211 #[.string (strOfNums (hexW 16 u)), .int .i64 16, .int .i64 64] w fun e w' => e = .returned (.tuple #[.int .u64 (u : Int), .nilIface]) ∧ Below w.heap.size w w' := by
  obtain ⟨s, hs⟩ : ∃ s, strOfNums (hexW 16 u) = s := ⟨_, rfl⟩
  have hsz : s.size = 16 := by rw [← hs, strOfNums_size, hexW_length]
  have hemp : s.toList.isEmpty = false := by
    rw [ByteArray.toList_eq]
    have : s.data.toList.length = 16 := by rw [← hs, strOfNums_data, List.length_map, hexW_length]
    cases h : s.data.toList with
    | nil => rw [h] at this; simp at this
    | cons a l => rfl
  have hB : ∀ j, j < 16 → (Lib.bytesWorld w 5 s).cell? ⟨w.heap.size, j, none⟩ = some (.int .u8 (hexD (u / 16 ^ (15 - j) % 16))) := fun j hj => by
    rw [Lib.bytesWorld_cell w 5 s j (by omega), ← hs, strOfNums_data]
    have h1 := hexW_at 16 u j hj
    have h2 := hexW_range 16 u _ (List.getElem_mem (by rw [hexW_length]; exact hj))
    rw [h1] at h2
    have e : ((hexW 16 u).map fun n => UInt8.ofNat n.toNat).getD j 0 = UInt8.ofNat (hexD (u / 16 ^ (16 - 1 - j) % 16)).toNat := by
      rw [List.getD, List.getElem?_map, List.getElem?_eq_getElem (by rw [hexW_length]; exact hj), h1]
      rfl
    rw [e]
    show some (Value.int .u8 (((UInt8.ofNat (hexD (u / 16 ^ (15 - j) % 16)).toNat).toNat : Nat) : Int)) = _
    have h3 : (UInt8.ofNat (hexD (u / 16 ^ (15 - j) % 16)).toNat).toNat = (hexD (u / 16 ^ (15 - j) % 16)).toNat := by
      simp only [UInt8.toNat_ofNat']
      exact Nat.mod_eq_of_lt (by have : hexD (u / 16 ^ (15 - j) % 16) < 256 := h2.2; omega)
    rw [h3]
    congr 2
    have : 0 ≤ hexD (u / 16 ^ (15 - j) % 16) := h2.1
    omega
  have hcv := Lib.run_convert_string_bytes (P := Tryz.prog) w 9 62 5 s (u := .string) Tryz.underlying9 Tryz.underlying62 Tryz.underlying5
  have HB0 := Aside0.mk (Lib.bytesWorld_below w 5 s)
  obtain ⟨W1, hW1⟩ : ∃ W1, W1 = Lib.bytesWorld w 5 s := ⟨_, rfl⟩
  rw [← hW1] at hcv hB HB0
  rw [hsz] at hcv
  rw [hs]
  clear hW1 hs
  have HU := Aside0.mk hu
  have HC := Aside0.mk hB
  clear hu hB
  have hmv : IntKind.u64.wrap (IntKind.u64.wrap 18446744073709551616 - 1) = 18446744073709551615 := by
    rw [IntKind.wrap_u64, IntKind.wrap_u64]
    decide
  go_enter Tryz.func211, Tryz.ntmps211
  go_wp2_with fail
  go_loopg [12, 13, 101] 17 (fun kq v12 v13 v101 w' => ∃ (i : Nat) (a : Int), v12 = .bool false ∧ v13 = .int .u64 a ∧ v101 = .int .i64 (i : Int) ∧ i + kq = 17 ∧ i ≤ 16 ∧ Aside0 (a = ((u / 16 ^ (16 - i) : Nat) : Int)) ∧ w' = W1)
  case atStart => exact ⟨0, 0, rfl, rfl, rfl, rfl, by omega, ⟨by
    have := HU.out
    rw [Nat.div_eq_of_lt (by simpa using this)]
    rfl⟩, rfl⟩
  case round =>
    obtain ⟨i, a, rfl, rfl, rfl, hik, hile, HA, rfl⟩ := hrel
    by_cases hlt : i < 16
    · obtain ⟨g1, rfl⟩ : ∃ m, gk = m + 1 := ⟨gk - 1, by omega⟩
      have hc := HC.out i hlt
      have hstep := hex_step u i hlt
      have hq : u / 16 ^ (16 - i) < 1152921504606846976 := by
        have := HU.out
        have h2 : 16 ≤ 16 ^ (16 - i) := by
          calc 16 = 16 ^ 1 := rfl
            _ ≤ 16 ^ (16 - i) := Nat.pow_le_pow_right (by decide) (by omega)
        exact Nat.div_lt_of_lt_mul (Nat.lt_of_lt_of_le this (by
          calc 18446744073709551616 = 16 * 1152921504606846976 := rfl
            _ ≤ 16 ^ (16 - i) * 1152921504606846976 := Nat.mul_le_mul_right _ h2))
      have hdlt : u / 16 ^ (15 - i) % 16 < 16 := Nat.mod_lt _ (by decide)
      rw [show 16 - 1 - i = 15 - i by omega] at hstep
      obtain ⟨d, hd⟩ : ∃ d, u / 16 ^ (15 - i) % 16 = d := ⟨_, rfl⟩
      rw [hd] at hc hstep hdlt
      have hA := HA.out
      obtain ⟨q, hqe⟩ : ∃ q, u / 16 ^ (16 - i) = q := ⟨_, rfl⟩
      rw [hqe] at hstep hq hA
      subst hA
      have HST := Aside0.mk hstep
      have hrd := hexD_range d hdlt
      obtain ⟨c, hcd⟩ : ∃ c, hexD d = c := ⟨_, rfl⟩
      rw [hcd] at hc hrd
      have HDC := Aside0.mk (And.intro hcd (And.intro hd hqe))
      clear hstep hd hqe hcd
      have a0 : (0 : Int) ≤ (q : Int) := by omega
      have a1 : (q : Int) < 1152921504606846976 := by omega
      rcases hrd with ⟨h48, h57, hv⟩ | ⟨h97, h102, hv⟩
      · have hv' : c = 48 + (d : Int) := by have := hv; unfold hexV at this; rw [if_pos h57] at this; omega
        obtain ⟨b, hb⟩ : ∃ b : Int, (q : Int) = b := ⟨_, rfl⟩
        have HB := Aside0.mk hb
        rw [hb] at a0 a1 ⊢
        clear hv hb hq
        go_wp2
        go_roundg g1
        case measure => omega
        case rel =>
          refine ⟨i + 1, _, rfl, rfl, by go_num, by omega, by omega, ⟨?_⟩, rfl⟩
          have h1 := HST.out
          have h2 := HB.out
          rw [h1]
          omega
      · have hv' : c = 87 + (d : Int) := by have := hv; unfold hexV at this; rw [if_neg (by omega)] at this; omega
        have hor : bits BinOp.or IntKind.u8 c 32 = c := by
          have h1 := or32 (d - 10) (by omega)
          rwa [show ((97 + (d - 10) : Nat) : Int) = c by omega] at h1
        obtain ⟨b, hb⟩ : ∃ b : Int, (q : Int) = b := ⟨_, rfl⟩
        have HB := Aside0.mk (And.intro hb hv')
        rw [hb] at a0 a1 ⊢
        clear hv hb hq hv' hdlt
        go_wp2
        go_roundg g1
        case measure => omega
        case rel =>
          refine ⟨i + 1, _, rfl, rfl, by go_num, by omega, by omega, ⟨?_⟩, rfl⟩
          have h1 := HST.out
          have h2 := HB.out
          rw [h1]
          omega
    · obtain rfl : i = 16 := by omega
      have hA := HA.out
      simp only [Nat.sub_self, Nat.pow_zero, Nat.div_one] at hA
      subst hA
      go_wp2
      go_ret2
      exact ⟨rfl, HB0.out⟩

set_option maxRecDepth 100000 in
theorem parseUint16_calls (u : Nat) (hu : u < 18446744073709551616) (w : World) :
    Calls Tryz.prog 158 #[.string (strOfNums (hexW 16 u)), .int .i64 16, .int .i64 64] w fun e w' => e = .returned (.tuple #[.int .u64 (u : Int), .nilIface]) ∧ Below w.heap.size w w' := by
  go_enter Tryz.func158, Tryz.ntmps158
  go_wp2_with fail
  refine (parse16_calls u hu _).mono ?_
  rintro e w1 ⟨rfl, hb⟩
  have HB := Aside0.mk hb; clear hb
  go_wp2
  go_ret2
  exact ⟨rfl, HB.out⟩
set_option maxRecDepth 100000 in
theorem fromString_calls (u : Nat) (hu : u < 18446744073709551616) (w : World) :
    Calls Tryz.prog 99 #[.string (strOfNums (hexW 16 u))] w fun e w' => e = .returned (.tuple #[.int .u64 (u : Int), .nilIface]) ∧ Below w.heap.size w w' := by
  go_enter Tryz.func99, Tryz.ntmps99
  go_wp2_with fail
  refine (parseUint16_calls u hu _).mono ?_
  rintro e w1 ⟨rfl, hb⟩
  have HB := Aside0.mk hb; clear hb
  go_wp2
  go_ret2
  exact ⟨rfl, HB.out⟩
set_option maxRecDepth 100000 in
theorem fpRead_calls (u : Nat) (hu : u < 18446744073709551616) (w : World) :
    Calls Tryz.prog 33 #[.string (strOfNums (hexW 16 u))] w fun e w' => e = .returned (.tuple #[.int .u64 (u : Int), .bool true]) ∧ Below w.heap.size w w' := by
  go_enter Tryz.func33, Tryz.ntmps33
  go_wp2_with fail
  refine (fromString_calls u hu _).mono ?_
  rintro e w1 ⟨rfl, hb⟩
  have HB := Aside0.mk hb; clear hb
  go_wp2
  go_ret2
  exact ⟨rfl, HB.out⟩
end Go.Proofs.YtobbfenkdnaanaaGreatDoor
