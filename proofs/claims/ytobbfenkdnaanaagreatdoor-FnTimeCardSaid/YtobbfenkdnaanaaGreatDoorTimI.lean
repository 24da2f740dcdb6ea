/- The package's zzIndex, by contract. -/
import Derived.Test.YtobbfenkdnaanaaGreatDoorSafe
import Derived.Test.YtobbfenkdnaanaaGreatDoorWords
import Derived.Test.YtobbfenkdnaanaaGreatDoorTimH
import Derived.Lib.IndexEntry
import Derived.Lib.Replace
import Derived.Lib.IndexBytes
import Derived.Lib.IndexLaws
import Derived.Lib.FrozenHead2
import Derived.Lib.OthersKept
import Derived.Deep.LoopGhost
import Derived.Deep.QuietTactic
import Derived.BigQuiet
import Derived.WalkMore
set_option linter.unusedVariables false
set_option linter.unusedSimpArgs false
namespace Go.Proofs.YtobbfenkdnaanaaGreatDoor
open Go.RowKit

set_option maxHeartbeats 1000000 in
set_option maxRecDepth 100000 in
theorem zzIndex_calls (s sub : ByteArray) (hs : s.size ≤ 100000000) (hsub : sub.size ≤ 100) (hsub0 : 0 < sub.size) (w : World) :
    Calls Tryz.prog 223 #[.string s, .string sub] w fun e w' => e = .returned (.int .i64 (Lib.index s.data.toList sub.data.toList)) ∧ w' = w := by
  obtain ⟨wo, hwo⟩ : ∃ wo : World, wo = w := ⟨_, rfl⟩
  subst hwo
  go_enter Tryz.func223, Tryz.ntmps223
  have HSUB := Aside0.mk (show sub.data.toList ≠ [] by
    intro h
    have := (Lib.size_eq sub).symm
    rw [h, List.length_nil] at this
    omega)
  have l1 := (Lib.size_eq s).symm
  have l2 := (Lib.size_eq sub).symm
  have HL := Aside0.mk (And.intro l1 l2)
  clear l1 l2
  go_wp2_with fail
  go_loopg [5] (s.size + 1) (fun g v5 w' => ∃ i : Nat, v5 = .int .i64 (i : Int) ∧ i + g = s.size + 1 ∧ Aside0 (Lib.NoOcc s.data.toList sub.data.toList i) ∧ wo = w')
  case atStart => exact ⟨0, rfl, by omega, ⟨Lib.NoOcc.zero _ _⟩, rfl⟩
  case round =>
    obtain ⟨i, rfl, hik, HN, rfl⟩ := hrel
    by_cases hin : i + sub.size ≤ s.size
    · have c1 : (i : Int) + (sub.size : Int) ≤ (s.size : Int) := by omega
      have c2 : (i : Int) ≤ (i : Int) + (sub.size : Int) := by omega
      have HO := Aside0.mk (Lib.occ_of_piece s sub i hin)
      obtain ⟨b, hb⟩ : ∃ b, Lib.occAt s.data.toList sub.data.toList i = b := ⟨_, rfl⟩
      have hp : ((s.extract i (i + sub.size)).toList == sub.toList) = b := by rw [← HO.out, hb]
      have HBB := Aside0.mk hb
      clear hb
      cases b with
      | true =>
        go_wp2_with fail
        go_ret
        exact ⟨by rw [Lib.index_hit HN.out (by rw [HL.out.1]; omega) HBB.out]; rfl, rfl⟩
      | false =>
        obtain ⟨g1, rfl⟩ : ∃ m, gk = m + 1 := ⟨gk - 1, by omega⟩
        go_wp2_with fail
        go_roundg g1
        case measure => omega
        case rel => exact ⟨i + 1, by go_num, by omega, ⟨HN.out.succ HBB.out⟩, rfl⟩
    · have c1 : (s.size : Int) < (i : Int) + (sub.size : Int) := by omega
      go_wp2_with fail
      go_ret
      exact ⟨by rw [Lib.index_past HSUB.out HN.out (by rw [HL.out.1, HL.out.2]; omega)]; rfl, rfl⟩

theorem infoS : (Tryz.prog.info? 9).map (fun i => (i.zero, i.size, i.bytes)) = some (some (.string ⟨#[]⟩), 1, 16) := by kernel_rfl

set_option maxHeartbeats 1000000 in
set_option maxRecDepth 100000 in
/-- The package's zzSplit, where the mark is not there. -/
theorem split_one (s : ByteArray) (hs : s.size ≤ 100) (hi : Lib.index s.data.toList [46] = -1) (w : World) :
    Calls Tryz.prog 169 #[.string s, .string ⟨#[46]⟩] w fun e w' => ∃ v, e = .returned v ∧ w'.ownsRow w.heap.size 9 1 v 1 [.string s] ∧ Below w.heap.size w w' := by
  obtain ⟨i0, hin, hz0, hz1, hz2⟩ := info_parts infoS
  have HX := Aside0.mk hi
  clear hi
  obtain ⟨wo, hwo⟩ : ∃ wo : World, wo = w := ⟨_, rfl⟩
  subst hwo
  go_enter Tryz.func169, Tryz.ntmps169
  go_wp2_with fail
  refine wp_loop_rounds 1 ?_
  rw [rounds_succ]
  go_wp2_with fail
  refine (zzIndex_calls s ⟨#[46]⟩ (by omega) (by decide) (by decide) _).mono ?_
  rintro e w1 ⟨rfl, rfl⟩
  rw [show Lib.index s.data.toList (⟨#[46]⟩ : ByteArray).data.toList = -1 from HX.out]
  go_wp2_with (at_builtin; refine wpList_append_own _ rfl _ _ 81 rfl w1.heap.size 9 i0 (.string ⟨#[]⟩) 1 16 Tryz.underlying81 hin hz0 hz1 hz2 rfl (by decide) _ _ _ rfl (World.ownsRow_nil _ _ _ _) ⟨w1.heap.size, 0, none⟩ 1 1 [.string s] rfl rfl (cell_one_new _ _ _) (by intro u hu; simp at hu; subst hu; rfl) (by unfold maxLen; omega) (by omega) (by simp) ?_; intro v1 w2 hown hgr hnil)
  refine bodyPost_ret (v := v1) (by simp [results, Tryz.results169, go_sem]) rfl ⟨v1, rfl, hown, ((Below.refl w1.heap.size w1).alloc (Nat.le_refl _) _).grown hgr (by simp) (fun k hk => by cases hk)⟩

set_option maxHeartbeats 1000000 in
set_option maxRecDepth 100000 in
/-- The package's zzSplit, where the mark is there once. -/
theorem split_two (s : ByteArray) (i : Nat) (hs : s.size ≤ 100) (his : i + 1 ≤ s.size) (hi : Lib.index s.data.toList [46] = (i : Int)) (hi2 : Lib.index (s.extract (i + 1) s.size).data.toList [46] = -1) (w : World) :
    Calls Tryz.prog 169 #[.string s, .string ⟨#[46]⟩] w fun e w' => ∃ v, e = .returned v ∧ w'.ownsRow w.heap.size 9 1 v 2 [.string (s.extract 0 i), .string (s.extract (i + 1) s.size)] ∧ Below w.heap.size w w' := by
  obtain ⟨i0, hin, hz0, hz1, hz2⟩ := info_parts infoS
  have HIN := Aside0.mk (And.intro hin (And.intro hz0 (And.intro hz1 hz2)))
  have HX := Aside0.mk hi
  have HX2 := Aside0.mk hi2
  have hz : (s.extract (i + 1) s.size).size ≤ 100 := by rw [ByteArray.size_extract]; omega
  have HZ := Aside0.mk hz
  clear hi hi2 hin hz0 hz1 hz2 hz
  obtain ⟨wo, hwo⟩ : ∃ wo : World, wo = w := ⟨_, rfl⟩
  subst hwo
  go_enter Tryz.func169, Tryz.ntmps169
  go_wp2_with fail
  refine wp_loop_rounds 2 ?_
  rw [rounds_succ]
  go_wp2_with fail
  refine (zzIndex_calls s ⟨#[46]⟩ (by omega) (by decide) (by decide) _).mono ?_
  rintro e w1 ⟨rfl, rfl⟩
  rw [show Lib.index s.data.toList (⟨#[46]⟩ : ByteArray).data.toList = (i : Int) from HX.out]
  go_wp2_with (at_builtin; refine wpList_append_own _ rfl _ _ 81 rfl w1.heap.size 9 i0 (.string ⟨#[]⟩) 1 16 Tryz.underlying81 HIN.out.1 HIN.out.2.1 HIN.out.2.2.1 HIN.out.2.2.2 rfl (by decide) _ _ _ rfl (World.ownsRow_nil _ _ _ _) ⟨w1.heap.size, 0, none⟩ 1 1 [.string (s.extract 0 i)] rfl rfl (cell_one_new _ _ _) (by intro u hu; simp at hu; subst hu; rfl) (by unfold maxLen; omega) (by omega) (by simp) ?_; intro v1 w2 hown hgr hnil)
  have HO := Aside0.mk hown
  have HB2 := Aside0.mk (((Below.refl w1.heap.size w1).alloc (Nat.le_refl _) _).grown hgr (by simp) (fun k hk => by cases hk))
  clear hown hgr hnil
  rw [rounds_succ]
  go_wp2_with fail
  refine (zzIndex_calls _ ⟨#[46]⟩ (by have := HZ.out; omega) (by decide) (by decide) _).mono ?_
  rintro e w3 ⟨rfl, rfl⟩
  rw [show Lib.index (s.extract (i + 1) s.size).data.toList (⟨#[46]⟩ : ByteArray).data.toList = -1 from HX2.out]
  go_wp2_with (at_builtin; refine wpList_append_own _ rfl _ _ 81 rfl w1.heap.size 9 i0 (.string ⟨#[]⟩) 1 16 Tryz.underlying81 HIN.out.1 HIN.out.2.1 HIN.out.2.2.1 HIN.out.2.2.2 rfl (by decide) _ _ _ rfl (HO.out.alloc _) ⟨w3.heap.size, 0, none⟩ 1 1 [.string (s.extract (i + 1) s.size)] rfl rfl (cell_one_new _ _ _) (by intro u hu; simp at hu; subst hu; rfl) (by unfold maxLen; omega) (by omega) (by have := HB2.out.size; simp; omega) ?_; intro v4 w4 hown hgr hnil)
  refine bodyPost_ret (v := v4) (by simp [results, Tryz.results169, go_sem]) rfl ⟨v4, rfl, hown, ((HB2.out.alloc HB2.out.size _).grown hgr (by have := HB2.out.size; simp; omega) (fun k hk => (World.ownsRow.lt HO.out k hk).1))⟩
end Go.Proofs.YtobbfenkdnaanaaGreatDoor
