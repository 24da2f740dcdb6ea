/- The package's zzReplaceAll, by contract. -/
import Derived.Test.YtaajhionmdjhjaaDoorUneQ
import Derived.Lib.BufSteps
import Derived.Laws.IdiomStrings
import Derived.Laws.BytesArg
set_option linter.unusedVariables false
set_option linter.unusedSimpArgs false
namespace Go.Proofs.YtaajhionmdjhjaaDoor
open Go.RowKit

theorem infoU8 : (Tryd.prog.info? 5).map (fun i => (i.zero, i.size, i.bytes)) = some (some (.int .u8 0), 1, 1) := by kernel_rfl

theorem run_own_text (B : Nat) (v : Value) (l : List UInt8) (W0 w : World) (h : Lib.OwnBuf B 5 v l.length (Lib.byteCells l) W0 w) :
    (convert 73 9 v).run Tryd.prog w = .ok (.string ⟨l.toArray⟩) w := by
  rcases h.1.2 with ⟨rfl, h0⟩ | ⟨g, cap, cur, fz, rfl, _⟩
  · have hl : l = [] := List.eq_nil_of_length_eq_zero h0
    subst hl
    exact run_convert_bytes_nil w 73 5 Tryd.underlying73 Tryd.underlying5 0 0 9 Tryd.underlying9
  · refine run_convert_bytes_back (P := Tryd.prog) w 73 9 5 ⟨g, 0, none⟩ cap l Tryd.underlying73 Tryd.underlying5 Tryd.underlying9 (fun j hj => ?_)
    refine h.1.cells (g := g) rfl j _ ?_
    unfold Lib.byteCells
    simp [hj]

set_option maxHeartbeats 1000000 in
set_option maxRecDepth 100000 in
theorem zzReplaceAll_calls (s old new : ByteArray) (hs : s.size ≤ 100000) (ho : old.size ≤ 100) (ho0 : 0 < old.size) (hn : new.size ≤ old.size) (w : World) :
    Calls Tryd.prog 80 #[.string s, .string old, .string new] w fun e w' => e = .returned (.string ⟨(Lib.replaceK old.data.toList new.data.toList (s.size + 1) s.data.toList).toArray⟩) ∧ Below w.heap.size w w' := by
  obtain ⟨i0, hi, hz0, hz1, hz2⟩ := info_parts infoU8
  obtain ⟨wo, hwo⟩ : ∃ wo : World, wo = w := ⟨_, rfl⟩
  subst hwo
  have c0 : ((old.size : Int) == 0) = false := beq_eq_false_iff_ne.2 (by omega)
  go_enter Tryd.func80, Tryd.ntmps80
  have HLO := Aside0.mk (Lib.size_eq old).symm
  have HLN := Aside0.mk (Lib.size_eq new).symm
  go_wp2_with fail
  go_loopg [0, 7] (s.size + 1) (fun g v0 v7 w' => ∃ (r : ByteArray) (acc : List UInt8), v0 = .string r ∧ r.size < g ∧ acc.length + r.size ≤ s.size ∧ Aside0 (Lib.OwnBuf wo.heap.size 5 v7 acc.length (Lib.byteCells acc) wo w') ∧ Aside0 (acc ++ Lib.replaceK old.data.toList new.data.toList g r.data.toList = Lib.replaceK old.data.toList new.data.toList (s.size + 1) s.data.toList))
  case atStart => exact ⟨s, [], rfl, by omega, by simp, ⟨World.ownsRowF_nil _ _ _ _, Below.refl _ _, Nat.le_refl _⟩, ⟨rfl⟩⟩
  case round =>
    obtain ⟨r, acc, rfl, hrg, hal, HO, HR⟩ := hrel
    rename_i v7 _
    obtain ⟨g, rfl⟩ : ∃ m, gk = m + 1 := ⟨gk - 1, by omega⟩
    have hge := Lib.index_ge r.data.toList old.data.toList
    have hlr : r.data.toList.length = r.size := (Lib.size_eq r).symm
    by_cases hm : Lib.index r.data.toList old.data.toList = -1
    · have HM := Aside0.mk hm
      have hfin : Lib.replaceK old.data.toList new.data.toList (g + 1) r.data.toList = r.data.toList := by
        unfold Lib.replaceK
        rw [hm]; rfl
      have HF := Aside0.mk hfin
      clear hm hge hfin
      have HLR := Aside0.mk hlr
      clear hlr
      go_wp2_with (first | (go_at_call 92; refine (zzIndex_calls _ _ (by omega) (by omega) ho0 _).mono ?_; rintro e w1 ⟨rfl, hw⟩; subst hw; rw [HM.out]) | (at_builtin; refine Lib.wpList_append_text rfl _ _ 73 9 rfl wo.heap.size 5 i0 Tryd.underlying73 Tryd.underlying9 hi hz0 hz1 hz2 _ _ _ rfl wo HO.out _ rfl (by omega) ?_; intro v' w2 ho2))
      have hE : Lib.byteCells acc ++ Lib.strCells r = Lib.byteCells (acc ++ r.data.toList) := by rw [Lib.strCells_eq, ← Lib.byteCells_append]
      have hN : acc.length + r.size = (acc ++ r.data.toList).length := by rw [List.length_append, HLR.out]
      rw [hE, hN] at ho2
      have hcv := run_own_text _ _ _ _ _ ho2
      have HB := Aside0.mk ho2.2.1
      clear ho2 hE hN
      rw [hcv]
      simp only [Result.andThen]
      rw [Oper.upon_value]
      go_wp2
      go_ret
      refine ⟨?_, HB.out⟩
      have := HR.out
      rw [HF.out] at this
      rw [← this]
      rfl
    · obtain ⟨i, hix⟩ : ∃ i : Nat, Lib.index r.data.toList old.data.toList = i := ⟨(Lib.index r.data.toList old.data.toList).toNat, by omega⟩
      have hroom := Lib.index_room r.data.toList old.data.toList (by omega)
      rw [hix, hlr, HLO.out] at hroom
      have hir : i + old.size ≤ r.size := by omega
      have HIX := Aside0.mk hix
      have hstep := Aside0.mk (Lib.replaceK_hit old.data.toList new.data.toList g r.data.toList i hix)
      have HLR := Aside0.mk hlr
      clear hm hge hix hlr hroom
      have c1 : ¬ ((i : Int) < 0) := by omega
      have c2 : (i : Int) ≤ (r.size : Int) := by omega
      have c3 : (i : Int) + (old.size : Int) ≤ (r.size : Int) := by omega
      have hsz : (r.extract 0 i).size = i := by rw [ByteArray.size_extract]; omega
      have HSZ := Aside0.mk hsz
      clear hsz
      go_wp2_with (first | (go_at_call 92; refine (zzIndex_calls _ _ (by omega) (by omega) ho0 _).mono ?_; rintro e w1 ⟨rfl, hw⟩; subst hw; rw [HIX.out]) | (at_builtin; refine Lib.wpList_append_text rfl _ _ 73 9 rfl wo.heap.size 5 i0 Tryd.underlying73 Tryd.underlying9 hi hz0 hz1 hz2 _ _ _ rfl wo HO.out _ rfl (by rw [HSZ.out]; omega) ?_; intro v' w2 ho2; have HO2 := Aside0.mk ho2; clear ho2 HO) | (at_builtin; refine Lib.wpList_append_text rfl _ _ 73 9 rfl wo.heap.size 5 i0 Tryd.underlying73 Tryd.underlying9 hi hz0 hz1 hz2 _ _ _ rfl wo HO2.out _ rfl (by rw [HSZ.out]; omega) ?_; intro v'' w3 ho3; have HO3 := Aside0.mk ho3; clear ho3 HO2))
      go_roundg g
      case measure => omega
      case rel =>
        have hsz2 : (r.extract (i + old.size) r.size).size = r.size - (i + old.size) := by rw [ByteArray.size_extract]; omega
        have htk : (r.data.toList.take i).length = i := by rw [List.length_take, HLR.out]; omega
        have hex : (r.extract 0 i).data.toList = r.data.toList.take i := by rw [Lib.extract_data, List.drop_zero, Nat.sub_zero]
        refine ⟨r.extract (i + old.size) r.size, acc ++ r.data.toList.take i ++ new.data.toList, rfl, by rw [hsz2]; omega, ?_, ⟨?_⟩, ⟨?_⟩⟩
        · rw [List.length_append, List.length_append, htk, HLN.out, hsz2]; omega
        · have h3 := HO3.out
          rw [Lib.strCells_eq, Lib.strCells_eq, hex, ← Lib.byteCells_append, ← Lib.byteCells_append] at h3
          rw [List.length_append, List.length_append, htk, HLN.out]
          rw [HSZ.out] at h3
          exact h3
        · rw [Lib.extract_to_end, ← HR.out, hstep.out, HLO.out]
          simp only [List.append_assoc]
end Go.Proofs.YtaajhionmdjhjaaDoor
