/- The hash FNV-1a, by contract. -/
import Derived.Test.YtobbfenkdnaanaaGreatDoorSetC
set_option linter.unusedVariables false
set_option linter.unusedSimpArgs false
namespace Go.Proofs.YtobbfenkdnaanaaGreatDoor
open Go.RowKit Go.Maps Go.WideMaps

/-- One byte more. -/
def hstep (h c : Int) : Int := IntKind.u64.wrap (bits BinOp.xor IntKind.u64 h (IntKind.u64.wrap c) * 1099511628211)
/-- FNV-1a over bytes, from a state on. -/
def fnvL (h : Int) (l : List UInt8) : Int := l.foldl (fun h b => hstep h (b.toNat : Int)) h
def fnv0 : Int := 14695981039346656037
theorem fnvL_append (h : Int) (l l' : List UInt8) : fnvL h (l ++ l') = fnvL (fnvL h l) l' := by unfold fnvL; rw [List.foldl_append]
theorem fnvL_take (h : Int) (l : List UInt8) (i : Nat) (hi : i < l.length) : fnvL h (l.take (i + 1)) = hstep (fnvL h (l.take i)) ((l[i]'hi).toNat : Int) := by
  rw [List.take_add_one, List.getElem?_eq_getElem hi, fnvL_append]
  rfl

set_option maxRecDepth 100000 in
theorem hashNew_calls (w : World) : Calls Tryz.prog 207 #[] w fun e w' => e = .returned (.int .u64 fnv0) ∧ w' = w := by
  go_enter Tryz.func207, Tryz.ntmps207
  go_wp2
  go_ret
  exact ⟨rfl, rfl⟩
set_option maxRecDepth 100000 in
theorem hashAddByte_calls (h c : Int) (w : World) : Calls Tryz.prog 209 #[.int .u64 h, .int .u8 c] w fun e w' => e = .returned (.int .u64 (hstep h c)) ∧ w' = w := by
  go_enter Tryz.func209, Tryz.ntmps209
  go_wp2
  go_ret
  exact ⟨rfl, rfl⟩
set_option maxRecDepth 100000 in
theorem hashAdd_calls (h : Int) (s : ByteArray) (hs : s.size ≤ maxLen) (w : World) : Calls Tryz.prog 208 #[.int .u64 h, .string s] w fun e w' => e = .returned (.int .u64 (fnvL h s.data.toList)) ∧ w' = w := by
  have hs2 : s.size ≤ 9223372036854775807 := hs
  clear hs
  obtain ⟨wo, hwo⟩ : ∃ wo : World, wo = w := ⟨_, rfl⟩
  subst hwo
  go_enter Tryz.func208, Tryz.ntmps208
  go_wp2_with fail
  go_loopg [0, 5] (s.size + 1) (fun g v0 v5 w' => ∃ i : Nat, v5 = .int .i64 (i : Int) ∧ v0 = .int .u64 (fnvL h (s.data.toList.take i)) ∧ i + g = s.size + 1 ∧ i ≤ s.size ∧ wo = w')
  case atStart => exact ⟨0, rfl, rfl, by omega, by omega, rfl⟩
  case round =>
    obtain ⟨i, rfl, rfl, hig, hile, rfl⟩ := hrel
    obtain ⟨z, hz⟩ : ∃ z, fnvL h (s.data.toList.take i) = z := ⟨_, rfl⟩
    by_cases hlt : i < s.size
    · obtain ⟨g1, rfl⟩ : ∃ m, gk = m + 1 := ⟨gk - 1, by omega⟩
      have hl : i < s.data.toList.length := by rw [len_toList]; exact hlt
      obtain ⟨x, hx⟩ : ∃ x : Int, ((s[i]'hlt).toNat : Int) = x := ⟨_, rfl⟩
      have hxi : ∀ h : i < s.size, ((s[i]'h).toNat : Int) = x := fun _ => hx
      have HN := Aside0.mk (show fnvL h (s.data.toList.take (i + 1)) = hstep z x by rw [fnvL_take _ _ _ hl, hz]; exact congrArg _ hx)
      rw [hz]
      clear hz hx hl
      go_wp2_with fail
      go_roundg g1
      case measure => omega
      case rel => exact ⟨i + 1, by go_num, by rw [HN.out]; rfl, by omega, by omega, rfl⟩
    · have HI := Aside0.mk (show fnvL h s.data.toList = z by rw [← hz, List.take_of_length_le (by rw [len_toList]; omega)])
      rw [hz]
      clear hz
      go_wp2_with fail
      go_ret
      exact ⟨by rw [HI.out]; rfl, rfl⟩

/-- A slice of bytes in memory. -/
def Byts (w : World) (a : Option Addr) (l : List UInt8) : Prop :=
  l = [] ∨ ∃ b off, a = some ⟨b, off, none⟩ ∧ ∀ i (h : i < l.length), w.cell? ⟨b, off + i, none⟩ = some (.int .u8 ((l[i]'h).toNat : Int))
set_option maxRecDepth 100000 in
theorem fnv_calls (a : Option Addr) (cap : Nat) (l : List UInt8) (w : World) (hl : Byts w a l) (hn : l.length ≤ 1000000) : Calls Tryz.prog 36 #[.slice a l.length cap] w fun e w' => e = .returned (.int .u64 (fnvL fnv0 l)) ∧ w' = w := by
  have HL := Aside0.mk hl
  clear hl
  obtain ⟨wo, hwo⟩ : ∃ wo : World, wo = w := ⟨_, rfl⟩
  subst hwo
  go_enter Tryz.func36, Tryz.ntmps36
  go_wp2_with fail
  go_loopg [3, 4] (l.length + 1) (fun g v3 v4 w' => ∃ i : Nat, v4 = .int .i64 (i : Int) ∧ v3 = .int .u64 (fnvL fnv0 (l.take i)) ∧ i + g = l.length + 1 ∧ i ≤ l.length ∧ wo = w')
  case atStart => exact ⟨0, rfl, rfl, by omega, by omega, rfl⟩
  case round =>
    obtain ⟨i, rfl, rfl, hig, hile, rfl⟩ := hrel
    obtain ⟨z, hz⟩ : ∃ z, fnvL fnv0 (l.take i) = z := ⟨_, rfl⟩
    by_cases hlt : i < l.length
    · obtain ⟨g1, rfl⟩ : ∃ m, gk = m + 1 := ⟨gk - 1, by omega⟩
      rcases HL.out with h | ⟨b, off, ha, hc⟩
      · rw [h] at hlt; simp at hlt
      subst ha
      have c0 := hc i hlt
      obtain ⟨x, hx⟩ : ∃ x : Int, ((l[i]'hlt).toNat : Int) = x := ⟨_, rfl⟩
      rw [hx] at c0
      have HN := Aside0.mk (show fnvL fnv0 (l.take (i + 1)) = hstep z x by rw [fnvL_take _ _ _ hlt, hz, hx])
      rw [hz]
      clear hz hx hc
      go_wp2_with fail
      first | go_quiet (fail) | skip
      go_wp2_with fail
      go_roundg g1
      case measure => omega
      case rel => exact ⟨i + 1, by go_num, by rw [HN.out]; rfl, by omega, by omega, rfl⟩
    · have HI := Aside0.mk (show fnvL fnv0 l = z by rw [← hz, List.take_of_length_le (by omega)])
      rw [hz]
      clear hz
      go_wp2_with fail
      go_ret
      exact ⟨by rw [HI.out]; rfl, rfl⟩
end Go.Proofs.YtobbfenkdnaanaaGreatDoor
