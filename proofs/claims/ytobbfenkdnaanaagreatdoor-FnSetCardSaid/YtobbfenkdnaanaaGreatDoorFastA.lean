/- The fast fingerprint, by contract. -/
import Derived.Test.YtobbfenkdnaanaaGreatDoorHashA
set_option linter.unusedVariables false
set_option linter.unusedSimpArgs false
namespace Go.Proofs.YtobbfenkdnaanaaGreatDoor
open Go.RowKit Go.Maps Go.WideMaps

def labelH (p : ByteArray × ByteArray) : Int := fnvL (hstep (fnvL fnv0 p.1.data.toList) 255) p.2.data.toList
def fastX (l : LL) : Int := l.foldl (fun r p => bits .xor .u64 r (labelH p)) 0
def fastH (l : LL) : Int := if l.length = 0 then fnv0 else fastX l
theorem bv_back (x : BitVec 64) : BitVec.ofInt 64 (IntKind.u64.wrap (x.toNat : Int)) = x := by
  have h : IntKind.u64.wrap (x.toNat : Int) = (x.toNat : Int) := by
    rw [IntKind.wrap_u64]
    have := x.isLt
    omega
  rw [h, BitVec.ofInt_natCast]
  simp
theorem xor_right (a b c : Int) : bits .xor .u64 (bits .xor .u64 a b) c = bits .xor .u64 (bits .xor .u64 a c) b := by
  show IntKind.u64.wrap ((BitVec.ofInt 64 (IntKind.u64.wrap ((BitVec.ofInt 64 a ^^^ BitVec.ofInt 64 b).toNat : Int)) ^^^ BitVec.ofInt 64 c).toNat : Int) = IntKind.u64.wrap ((BitVec.ofInt 64 (IntKind.u64.wrap ((BitVec.ofInt 64 a ^^^ BitVec.ofInt 64 c).toNat : Int)) ^^^ BitVec.ofInt 64 b).toNat : Int)
  rw [bv_back, bv_back, BitVec.xor_assoc, BitVec.xor_comm (BitVec.ofInt 64 b), ← BitVec.xor_assoc]
theorem fastX_perm {d l : LL} (h : d.Perm l) : fastX d = fastX l := h.foldl_eq' (fun x _ y _ z => xor_right z (labelH x) (labelH y)) 0
theorem fastX_snoc (d : LL) (p : ByteArray × ByteArray) : fastX (d ++ [p]) = bits .xor .u64 (fastX d) (labelH p) := by unfold fastX; rw [List.foldl_append]; rfl

set_option maxHeartbeats 1000000 in
set_option maxRecDepth 100000 in
theorem fast1_calls (ba na : Nat) (la : LL) (w : World) (ha : MapIs w ba na la) (hsa : Sized la) :
    Calls Tryz.prog 154 #[.map (some ba)] w fun e w' => e = .returned (.int .u64 (fastH la)) ∧ Below w.heap.size w w' := by
  have HA := Aside0.mk ha
  have HSA := Aside0.mk hsa
  have hlen := hsa.1
  clear ha hsa
  by_cases h0 : la.length = 0
  · have c0 : ((la.length : Int) == 0) = true := by simp [h0]
    have HF := Aside0.mk (show fastH la = fnv0 by unfold fastH; rw [if_pos h0])
    clear h0
    go_enter Tryz.func154, Tryz.ntmps154
    go_wp2_with (at_len; refine wpList_len_label _ rfl _ 75 rfl Tryz.underlying75 ba na la rfl HA.out ?_)
    go_ret
    exact ⟨by rw [HF.out]; rfl, Below.refl _ _⟩
  · have c0 : ((la.length : Int) == 0) = false := beq_eq_false_iff_ne.2 (by omega)
    have HF := Aside0.mk (show fastH la = fastX la by unfold fastH; rw [if_neg h0])
    clear h0
    go_enter Tryz.func154, Tryz.ntmps154
    go_wp2_with (first | (at_len; refine wpList_len_label _ rfl _ 75 rfl Tryz.underlying75 ba na la rfl HA.out ?_) | (at_range; refine wpList_range_label _ rfl _ 75 rfl Tryz.underlying75 ba na la rfl HA.out ?_; intro w0 hrg0 hg0 hs0; have HRG := Aside0.mk hrg0; have HG0 := Aside0.mk (And.intro hg0 hs0); clear hrg0 hg0 hs0))
    go_frame
    have HB0 := Aside0.mk ((Below.refl w.heap.size w).grown HG0.out.1 (Nat.le_refl _) (fun k hk => by cases hk))
    go_loopg [3, 4] la.length (fun g v3 v4 w' => ∃ d : LL, v3 = .int .u64 (fastX d) ∧ Aside0 (RangeIs w' ba w.heap.size na la d g) ∧ Aside0 (Below w.heap.size w w'))
    case atStart => exact ⟨[], rfl, HRG, HB0⟩
    case round =>
      obtain ⟨d, rfl, HR, HBW⟩ := hrel
      obtain ⟨z, hz⟩ : ∃ z, fastX d = z := ⟨_, rfl⟩
      rw [hz]
      have HZ := Aside0.mk hz
      clear hz
      go_wp2_with (at_next; refine wpList_next_label _ rfl _ rfl ba w.heap.size na la d gk rfl HR.out ?_ ?_)
      · intro hperm
        have HX := Aside0.mk (show fastH la = z by rw [HF.out, ← HZ.out, fastX_perm hperm])
        clear hperm
        go_wp2
        go_ret
        exact ⟨by rw [HX.out]; rfl, HBW.out⟩
      · intro x v w1 cnt1 hlx hdx hxl hrg1 hlt hg1 hs1 hen
        have HBX := Aside0.mk (HBW.out.grown hg1 (by have := HBW.out.size; omega) (fun k hk => by cases hk; exact Nat.le_refl _))
        have hsv := HSA.out.2 _ (getL_some hlx)
        have HX := Aside0.mk (And.intro hxl (show v.size ≤ maxLen by have h2 : v.size ≤ 300 := hsv.2; unfold maxLen; omega))
        have HRG1 := Aside0.mk hrg1
        clear hlx hdx hxl hrg1 hg1 hs1 hsv
        go_wp2_with (first | (go_at_call 207; refine (hashNew_calls _).mono ?_; rintro e wx ⟨rfl, rfl⟩) | (go_at_call 209; refine (hashAddByte_calls _ _ _).mono ?_; rintro e wx ⟨rfl, rfl⟩) | (go_at_call 208; refine Calls.mono (hashAdd_calls _ _ ?hsz _) ?_; (case hsz => first | exact HX.out.1 | exact HX.out.2); rintro e wx ⟨rfl, rfl⟩))
        go_roundg cnt1
        case measure => exact hlt
        case rel => exact ⟨d ++ [(x, v)], by rw [fastX_snoc, HZ.out]; rfl, HRG1, HBX⟩
set_option maxRecDepth 100000 in
theorem fast_calls (ba na : Nat) (la : LL) (w : World) (ha : MapIs w ba na la) (hsa : Sized la) :
    Calls Tryz.prog 55 #[.map (some ba)] w fun e w' => e = .returned (.int .u64 (fastH la)) ∧ Below w.heap.size w w' := by
  have HA := Aside0.mk ha
  have HSA := Aside0.mk hsa
  clear ha hsa
  go_enter Tryz.func55, Tryz.ntmps55
  go_wp2_with (go_at_call 96; go_in)
  refine (fast1_calls ba na la _ HA.out HSA.out).mono ?_
  rintro e w1 ⟨rfl, hb⟩
  have HB := Aside0.mk hb; clear hb
  go_wp2
  go_ret
  exact ⟨rfl, HB.out⟩
end Go.Proofs.YtobbfenkdnaanaaGreatDoor
