/- A time's text read back: UnmarshalJSON, TimeRead, walked. -/
import Derived.Test.YtobbfenkdnaanaaGreatDoorTimJ
import Derived.Deep.RegionWith
set_option linter.unusedVariables false
set_option linter.unusedSimpArgs false
namespace Go.Proofs.YtobbfenkdnaanaaGreatDoor
open Go.RowKit Go.Sort

theorem tmxRep_X : Builder.Extra Tryz.prog Tryz.laysRep_ren := {
  sizeBuilder := by kernel_rfl
  liesBuilder := by kernel_rfl
  t5 := Tryz.underlying5
  a5 := Tryz.isAgg5
  z5 := Tryz.sizeOf5
  v5 := Tryz.zeroValue5
  infoByte := by kernel_rfl
  cellsByte := by kernel_rfl
  sizeByte := by kernel_rfl
  neB5 := by decide }

theorem repeat_at (c : Nat) (hc : c ≤ 3) (w : World) :
    Calls Tryz.prog 104 #[.string ⟨#[48]⟩, .int .i64 c] w fun e w' => e = .returned (.string ⟨(List.replicate c (48 : UInt8)).toArray⟩) ∧ Below w.heap.size w w' := by
  have h := Any.strings_Repeat Tryz.laysRep tmxRep_X ⟨#[48]⟩ c w (by omega) (by show 1 * c ≤ _; omega)
  have e : Lib.repeatL (⟨#[48]⟩ : ByteArray).data.toList c = List.replicate c 48 := by
    have : c = 0 ∨ c = 1 ∨ c = 2 ∨ c = 3 := by omega
    rcases this with rfl | rfl | rfl | rfl <;> rfl
  rw [e] at h
  exact h

theorem parse64_at (s : ByteArray) (z : Int) (hs : s.size ≤ 1000) (h : Lib.parseIntB 64 s.data.toList = .ok z) (w : World) :
    Calls Tryz.prog 170 #[.string s, .int .i64 10, .int .i64 64] w fun e w' => e = .returned (.tuple #[.int .i64 z, .nilIface]) ∧ Below w.heap.size w w' := by
  refine Calls.mono (Any.strconv_ParseInt_10_at64_ok Tryz.laysPInt s (by omega) z h w) ?_
  rintro e w' ⟨rfl, hw⟩
  refine ⟨rfl, ?_⟩
  rcases hw with rfl | ⟨t, rfl⟩
  · exact Below.refl _ _
  · exact Lib.bytesWorld_below _ _ _

theorem parse32_at (s : ByteArray) (z : Int) (hs : s.size ≤ 1000) (h : Lib.parseIntB 32 s.data.toList = .ok z) (w : World) :
    Calls Tryz.prog 170 #[.string s, .int .i64 10, .int .i64 32] w fun e w' => e = .returned (.tuple #[.int .i64 z, .nilIface]) ∧ Below w.heap.size w w' := by
  refine Calls.mono (Any.strconv_ParseInt_10_at32_ok Tryz.laysPInt s (by omega) z h w) ?_
  rintro e w' ⟨rfl, hw⟩
  refine ⟨rfl, ?_⟩
  rcases hw with rfl | ⟨t, rfl⟩
  · exact Below.refl _ _
  · exact Lib.bytesWorld_below _ _ _

theorem own_shape {w : World} {base n : Nat} {v : Value} {xs : List Value} (h : w.ownsRow base 9 1 v n xs) (hn : 1 ≤ n) :
    ∃ g cap, v = .slice (some ⟨g, 0, none⟩) n cap ∧ base ≤ g ∧ g < w.heap.size ∧ n ≤ cap ∧ ∀ j x, xs[j]? = some x → w.cell? ⟨g, j, none⟩ = some x ∧ w.frozen? ⟨g, j, none⟩ = false := by
  have hc := fun g hg => World.ownsRow.cells h (g := g) hg
  rcases h.2 with ⟨_, h0⟩ | ⟨g, cap, cur, rfl, hb, hg, h3, h4, h5, h6⟩
  · omega
  · refine ⟨g, cap, rfl, hb, (Array.getElem?_eq_some_iff.1 hg).1, h3, fun j x hj => ⟨?_, ?_⟩⟩
    · have := hc g rfl j x hj
      rwa [Lib.add_plain, Nat.zero_add] at this
    · simp [World.frozen?, hg]

set_option maxHeartbeats 1000000 in
set_option maxRecDepth 100000 in
/-- Where there is no dot. -/
theorem unm_one (q : Nat) (v : Value) (s : ByteArray) (z : Int) (hs : s.size ≤ 100) (hi : Lib.index s.data.toList [46] = -1) (hp : Lib.parseIntB 64 s.data.toList = .ok z) (hz0 : -1000000000000 ≤ z) (hz1 : z ≤ 1000000000000) (w : World)
    (hcv : (convert 62 9 v).run Tryz.prog w = .ok (.string s) w) (hq : q < w.heap.size) (c0 : w.cell? ⟨q, 0, none⟩ = some (.int .i64 0)) (f0 : w.frozen? ⟨q, 0, none⟩ = false) :
    Calls Tryz.prog 107 #[.pointer (some ⟨q, 0, none⟩), v] w fun e w' => e = .returned .nilIface ∧ w'.cell? ⟨q, 0, none⟩ = some (.int .i64 (z * 1000)) ∧ Below q w w' := by
  have HI := Aside0.mk hi
  have HP := Aside0.mk hp
  have HQ := Aside0.mk hq
  clear hi hp hq
  obtain ⟨wo, hwo⟩ : ∃ wo : World, wo = w := ⟨_, rfl⟩
  subst hwo
  go_enter Tryz.func107, Tryz.ntmps107
  go_wp2_with fail
  refine (split_one s hs HI.out _).mono ?_
  rintro e w1 ⟨v1, rfl, hown, hb1⟩
  obtain ⟨g, cap, rfl, hg1, hg2, hcap, hcs⟩ := own_shape hown (Nat.le_refl _)
  have k0 := (hcs 0 _ rfl).1
  have c1 := (hb1.cell (p := ⟨q, 0, none⟩) HQ.out).trans c0
  have f1 := (hb1.frozen (p := ⟨q, 0, none⟩) HQ.out).trans f0
  have HB1 := Aside0.mk hb1
  have HG := Aside0.mk (And.intro hg1 hg2)
  clear hown hcs hb1 c0 f0 hg1 hg2
  go_wp2_with fail
  refine (parse64_at s z (by omega) HP.out _).mono ?_
  rintro e w2 ⟨rfl, hb2⟩
  have c2 := (hb2.cell (p := ⟨q, 0, none⟩) (by have := HQ.out; have := HB1.out.size; show q < _; omega)).trans c1
  have f2 := (hb2.frozen (p := ⟨q, 0, none⟩) (by have := HQ.out; have := HB1.out.size; show q < _; omega)).trans f1
  have HB2 := Aside0.mk (below_step HB1.out hb2)
  clear hb2 c1 f1
  go_wp2_with fail
  refine bodyPost_ret (v := .nilIface) (by simp [results, Tryz.results107, go_sem]) rfl ⟨rfl, ?_, ?_⟩
  · simp [go_sem, c2]
  · exact (HB2.out.mono (by have := HQ.out; omega)).setCell (p := ⟨q, 0, none⟩) (Nat.le_refl q) _

theorem head45 (S : ByteArray) (h : 0 < S.size) (e : ((S[0]'h).toNat : Int) = 45) : S.data.toList.head? = some 45 := by
  have e2 : S[0]'h = 45 := UInt8.toNat_inj.1 (by rw [show (45 : UInt8).toNat = 45 from rfl]; omega)
  have e3 : S.data[0]'h = 45 := e2
  rw [List.head?_eq_getElem?, Array.getElem?_toList, Array.getElem?_eq_getElem h, e3]

set_option maxHeartbeats 2000000 in
set_option maxRecDepth 100000 in
/-- Where the dot is there. -/
theorem unm_two (q : Nat) (v : Value) (s : ByteArray) (i : Nat) (S0 S1 D : ByteArray) (z va : Int) (j : Nat) (hs : s.size ≤ 100) (his : i + 1 ≤ s.size)
    (hi : Lib.index s.data.toList [46] = (i : Int)) (hS0 : s.extract 0 i = S0) (hS1 : s.extract (i + 1) s.size = S1) (hi2 : Lib.index S1.data.toList [46] = -1)
    (hp : Lib.parseIntB 64 S0.data.toList = .ok z) (hz0 : -1000000000000 ≤ z) (hz1 : z ≤ 1000000000000) (hS0s : 1 ≤ S0.size) (hS0b : S0.size ≤ 100)
    (hj : S1.size = j) (hj1 : 1 ≤ j) (hj3 : j ≤ 3) (hD : S1 ++ ⟨(List.replicate (3 - j) (48 : UInt8)).toArray⟩ = D) (hDp : Lib.parseIntB 32 D.data.toList = .ok va) (hva0 : 0 ≤ va) (hva1 : va < 1000) (w : World)
    (hcv : (convert 62 9 v).run Tryz.prog w = .ok (.string s) w) (hq : q < w.heap.size) (c0 : w.cell? ⟨q, 0, none⟩ = some (.int .i64 0)) (f0 : w.frozen? ⟨q, 0, none⟩ = false) :
    Calls Tryz.prog 107 #[.pointer (some ⟨q, 0, none⟩), v] w fun e w' => e = .returned .nilIface ∧ (∃ x : Int, w'.cell? ⟨q, 0, none⟩ = some (.int .i64 x) ∧ (S0.data.toList.head? ≠ some 45 → x = z * 1000 + va)) ∧ Below q w w' := by
  have HI := Aside0.mk hi
  have HI2 := Aside0.mk hi2
  have HP := Aside0.mk hp
  have HQ := Aside0.mk hq
  have HS := Aside0.mk (And.intro hS0 hS1)
  have HDP := Aside0.mk hDp
  have HD := Aside0.mk hD
  have HJ := Aside0.mk hj
  have hSz : S1.size = j := hj
  clear hi hi2 hp hq hS0 hS1 hDp hD hj
  obtain ⟨wo, hwo⟩ : ∃ wo : World, wo = w := ⟨_, rfl⟩
  subst hwo
  go_enter Tryz.func107, Tryz.ntmps107
  go_wp2_with fail
  refine (split_two s i hs his HI.out (by rw [HS.out.2]; exact HI2.out) _).mono ?_
  rintro e w1 ⟨v1, rfl, hown, hb1⟩
  rw [HS.out.1, HS.out.2] at hown
  obtain ⟨g, cap, rfl, hg1, hg2, hcap, hcs⟩ := own_shape hown (by decide)
  have k0 := (hcs 0 _ rfl).1
  have k1 := (hcs 1 _ rfl).1
  have kf := (hcs 1 _ rfl).2
  have c1 := (hb1.cell (p := ⟨q, 0, none⟩) HQ.out).trans c0
  have f1 := (hb1.frozen (p := ⟨q, 0, none⟩) HQ.out).trans f0
  have HB1 := Aside0.mk hb1
  have HG := Aside0.mk (And.intro hg1 hg2)
  clear hown hcs hb1 c0 f0 hg1 hg2
  go_wp2_with fail
  refine (parse64_at S0 z (by omega) HP.out _).mono ?_
  rintro e w2 ⟨rfl, hb2⟩
  have hq1 : q < w1.heap.size := by have := HQ.out; have := HB1.out.size; omega
  have c2 := (hb2.cell (p := ⟨q, 0, none⟩) hq1).trans c1
  have f2 := (hb2.frozen (p := ⟨q, 0, none⟩) hq1).trans f1
  have k20 := (hb2.cell (p := ⟨g, 0, none⟩) HG.out.2).trans k0
  have k21 := (hb2.cell (p := ⟨g, 1, none⟩) HG.out.2).trans k1
  have kf2 := (hb2.frozen (p := ⟨g, 1, none⟩) HG.out.2).trans kf
  have HB2 := Aside0.mk (below_step HB1.out hb2)
  have HG2 := Aside0.mk (show g < w2.heap.size from Nat.lt_of_lt_of_le HG.out.2 hb2.size)
  have HQ2 := Aside0.mk (show q < g from Nat.lt_of_lt_of_le HQ.out HG.out.1)
  clear hb2 c1 f1 k0 k1 kf hq1
  by_cases h3 : j = 3
  · have hp0 : decide ((3 : Int) - (j : Int) < 0) = false := decide_eq_false (by omega)
    have hp1 : decide ((3 : Int) - (j : Int) > 0) = false := decide_eq_false (by omega)
    have HD3 := Aside0.mk (show S1 = D by
      have := HD.out
      rw [h3] at this
      rw [← this]
      exact (ByteArray.append_empty (b := S1)).symm)
    go_wp2_with fail
    refine (parse32_at S1 va (by omega) (by rw [HD3.out]; exact HDP.out) _).mono ?_
    rintro e w3 ⟨rfl, hb3⟩
    have c3 := (hb3.cell (p := ⟨q, 0, none⟩) (by have := HQ2.out; have := HG2.out; show q < _; omega)).trans c2
    have f3 := (hb3.frozen (p := ⟨q, 0, none⟩) (by have := HQ2.out; have := HG2.out; show q < _; omega)).trans f2
    have k30 := (hb3.cell (p := ⟨g, 0, none⟩) HG2.out).trans k20
    have HB3 := Aside0.mk (below_step HB2.out hb3)
    clear hb3 c2 f2 k20 k21 kf2
    go_wp2_with fail
    · have h45 : ((S0[0]'(by omega)).toNat : Int) = 45 := by assumption
      refine bodyPost_ret (v := .nilIface) (by simp [results, Tryz.results107, go_sem]) rfl ⟨rfl, ⟨-(z * 1000 + va), by simp [go_sem, c3], fun hne => absurd (head45 S0 (by omega) h45) hne⟩, ?_⟩
      exact (HB3.out.mono (by have := HQ.out; omega)).setCell (p := ⟨q, 0, none⟩) (Nat.le_refl q) _
    · refine bodyPost_ret (v := .nilIface) (by simp [results, Tryz.results107, go_sem]) rfl ⟨rfl, ⟨z * 1000 + va, by simp [go_sem, c3], fun _ => rfl⟩, ?_⟩
      exact (HB3.out.mono (by have := HQ.out; omega)).setCell (p := ⟨q, 0, none⟩) (Nat.le_refl q) _
    · refine bodyPost_ret (v := .nilIface) (by simp [results, Tryz.results107, go_sem]) rfl ⟨rfl, ⟨z * 1000 + va, by simp [go_sem, c3], fun _ => rfl⟩, ?_⟩
      exact (HB3.out.mono (by have := HQ.out; omega)).setCell (p := ⟨q, 0, none⟩) (Nat.le_refl q) _
  · obtain ⟨pd, hpd⟩ : ∃ pd : Nat, pd = 3 - j := ⟨_, rfl⟩
    have hp0 : decide ((3 : Int) - (j : Int) < 0) = false := decide_eq_false (by omega)
    have hp1 : decide ((3 : Int) - (j : Int) > 0) = true := decide_eq_true (by omega)
    have hpe : (3 : Int) - (j : Int) = (pd : Int) := by omega
    have hpd1 : 1 ≤ pd := by omega
    have hpd2 : pd ≤ 2 := by omega
    have hDd : S1 ++ ⟨(List.replicate pd (48 : UInt8)).toArray⟩ = D := by rw [hpd]; exact HD.out
    have hDs : D.size = 3 := by
      rw [← hDd, ByteArray.size_append, hSz]
      show j + (List.replicate pd (48 : UInt8)).toArray.size = 3
      simp
      omega
    have hrs : (⟨(List.replicate pd (48 : UInt8)).toArray⟩ : ByteArray).size = pd := by
      show (List.replicate pd (48 : UInt8)).toArray.size = pd
      simp
    obtain ⟨Z, hZ⟩ : ∃ Z : ByteArray, Z = ⟨(List.replicate pd (48 : UInt8)).toArray⟩ := ⟨_, rfl⟩
    have HR := Aside0.mk (fun w => repeat_at pd (by omega) w)
    rw [← hZ] at hDd hrs HR
    clear hpd hZ h3
    go_wp2_with fail
    go_region_with (go_at_call 104; refine (HR.out _).mono ?_; rintro e w3 ⟨rfl, hb3⟩; have k31 := (hb3.cell (p := ⟨g, 1, none⟩) HG2.out).trans k21; have kf3 := (hb3.frozen (p := ⟨g, 1, none⟩) HG2.out).trans kf2)
    all_goals
      have kk0 := (hb3.cell (p := ⟨g, 0, none⟩) HG2.out).trans k20
      have hqd : q < w2.drew.heap.size := by have := HQ2.out; have := HG2.out; show q < w2.heap.size; omega
      have cc3 := (hb3.cell (p := ⟨q, 0, none⟩) hqd).trans c2
      have ff3 := (hb3.frozen (p := ⟨q, 0, none⟩) hqd).trans f2
      have hqg : q ≠ g := by have := HQ2.out; omega
      obtain ⟨W3, hW3⟩ : ∃ W3, W3 = w3.setCell ⟨g, 1, none⟩ (.string D) := ⟨_, rfl⟩
      have k30 : W3.cell? ⟨g, 0, none⟩ = some (.string S0) := by rw [hW3]; simp [go_sem, kk0]
      have k31' : W3.cell? ⟨g, 1, none⟩ = some (.string D) := by rw [hW3]; simp [go_sem, k31]
      have c3 : W3.cell? ⟨q, 0, none⟩ = some (.int .i64 0) := by rw [hW3]; simp [go_sem, cc3, hqg]
      have f3 : W3.frozen? ⟨q, 0, none⟩ = false := by rw [hW3]; simp [go_sem, ff3]
      have HB3 := Aside0.mk (show Below wo.heap.size wo W3 by
        rw [hW3]
        exact ((below_step HB2.out (below_drew (Below.refl w2.heap.size w2))).trans (hb3.mono (by have := HB2.out.size; show wo.heap.size ≤ w2.heap.size; omega))).setCell (p := ⟨g, 1, none⟩) HG.out.1 _)
      have HG3 := Aside0.mk (show g < W3.heap.size by
        rw [hW3]
        have h1 : w2.heap.size ≤ w3.heap.size := hb3.size
        have := HG2.out
        simp
        omega)
      rw [← hW3]
      clear hW3 hb3 kk0 cc3 ff3 k31 kf3 c2 f2 k20 k21 kf2 hqd hqg
      go_wp2_with fail
      refine (parse32_at D va (by omega) HDP.out _).mono ?_
      rintro e w4 ⟨rfl, hb4⟩
      have c4 := (hb4.cell (p := ⟨q, 0, none⟩) (by have := HQ2.out; have := HG3.out; show q < _; omega)).trans c3
      have f4 := (hb4.frozen (p := ⟨q, 0, none⟩) (by have := HQ2.out; have := HG3.out; show q < _; omega)).trans f3
      have k40 := (hb4.cell (p := ⟨g, 0, none⟩) HG3.out).trans k30
      have HB4 := Aside0.mk (below_step HB3.out hb4)
      clear hb4 c3 f3 k30 k31'
      go_wp2_with fail
      · have h45 : ((S0[0]'(by omega)).toNat : Int) = 45 := by assumption
        refine bodyPost_ret (v := .nilIface) (by simp [results, Tryz.results107, go_sem]) rfl ⟨rfl, ⟨-(z * 1000 + va), by simp [go_sem, c4], fun hne => absurd (head45 S0 (by omega) h45) hne⟩, ?_⟩
        exact (HB4.out.mono (by have := HQ.out; omega)).setCell (p := ⟨q, 0, none⟩) (Nat.le_refl q) _
      · refine bodyPost_ret (v := .nilIface) (by simp [results, Tryz.results107, go_sem]) rfl ⟨rfl, ⟨z * 1000 + va, by simp [go_sem, c4], fun _ => rfl⟩, ?_⟩
        exact (HB4.out.mono (by have := HQ.out; omega)).setCell (p := ⟨q, 0, none⟩) (Nat.le_refl q) _
      · refine bodyPost_ret (v := .nilIface) (by simp [results, Tryz.results107, go_sem]) rfl ⟨rfl, ⟨z * 1000 + va, by simp [go_sem, c4], fun _ => rfl⟩, ?_⟩
        exact (HB4.out.mono (by have := HQ.out; omega)).setCell (p := ⟨q, 0, none⟩) (Nat.le_refl q) _
end Go.Proofs.YtobbfenkdnaanaaGreatDoor
