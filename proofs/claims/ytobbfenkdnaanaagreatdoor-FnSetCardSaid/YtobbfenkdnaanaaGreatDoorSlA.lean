/- The law FnSet, walked: whatever the labels, it answers true. -/
import Derived.Test.YtobbfenkdnaanaaGreatDoorSaA
import Derived.Test.YtobbfenkdnaanaaGreatDoorSfA
import Derived.Test.YtobbfenkdnaanaaGreatDoorLaidZ
import Derived.Test.YtobbfenkdnaanaaGreatDoorMetP
set_option linter.unusedVariables false
set_option linter.unusedSimpArgs false
namespace Go.Proofs.YtobbfenkdnaanaaGreatDoor
open Go.RowKit Go.Maps Go.WideMaps Go.Sort Go.Proofs

theorem hstep_range (h c : Int) : 0 ≤ hstep h c ∧ hstep h c < 18446744073709551616 := by
  unfold hstep
  rw [IntKind.wrap_u64]
  omega
theorem fnv_range : ∀ (l : List UInt8) (h : Int), 0 ≤ h ∧ h < 18446744073709551616 → 0 ≤ fnvL h l ∧ fnvL h l < 18446744073709551616
  | [], h, hh => hh
  | b :: l, h, _ => fnv_range l _ (hstep_range h _)
theorem fnv_nat (l : List UInt8) : ∃ u : Nat, fnvL fnv0 l = (u : Int) ∧ u < 18446744073709551616 := by
  have h := fnv_range l fnv0 (by unfold fnv0; omega)
  exact ⟨(fnvL fnv0 l).toNat, by omega, by omega⟩

theorem setEq (s0 s1 s4 : ByteArray) (x2 x3 : Int) (b5 : Bool) (w : World) : (binOp .eql 56 (.agg #[.string s0, .string s1, .int .u64 x2, .int .u64 x3, .string s4, .bool b5]) (.agg #[.string s0, .string s1, .int .u64 x2, .int .u64 x3, .string s4, .bool b5])).run Tryz.prog w = .ok (.bool true) w := by
  have u9 := Tryz.underlying9
  have a9 := Tryz.isAgg9
  have z9 := Tryz.sizeOf9
  have u4 := Tryz.underlying4
  have a4 := Tryz.isAgg4
  have z4 := Tryz.sizeOf4
  have u25 := Tryz.underlying25
  have a25 := Tryz.isAgg25
  have z25 := Tryz.sizeOf25
  have hS : Tryz.prog.underlying 56 = some (.struct (Tryz.prog.fieldsOf 56)) := by kernel_rfl
  have hp : Tryz.prog.stoodInHeld 56 = false := by kernel_rfl
  rw [run_eql_struct, show (10000 : Nat) = 9999 + 1 from rfl, run_equalIn_agg w 9999 56 _ _ hS hp]
  simp only [Program.fieldsOf, Tryz.underlying56]
  go_simp
theorem setGuard (s0 s1 s4 : ByteArray) (x2 x3 : Int) (b5 : Bool) (op : BinOp) (a b : Operand) (w : World) : (eqGuard op 56 a b (.agg #[.string s0, .string s1, .int .u64 x2, .int .u64 x3, .string s4, .bool b5]) (.agg #[.string s0, .string s1, .int .u64 x2, .int .u64 x3, .string s4, .bool b5])).run Tryz.prog w = .ok () w :=
  run_eqGuard_agg w op 56 a b _ _ (by kernel_rfl)

/-- Six cells of a struct. -/
structure S6 (W : World) (p : Nat) (v0 v1 v2 v3 v4 v5 : Value) : Prop where
  lt : p < W.heap.size
  c0 : W.cell? ⟨p, 0, none⟩ = some v0
  f0 : W.frozen? ⟨p, 0, none⟩ = false
  c1 : W.cell? ⟨p, 1, none⟩ = some v1
  f1 : W.frozen? ⟨p, 1, none⟩ = false
  c2 : W.cell? ⟨p, 2, none⟩ = some v2
  f2 : W.frozen? ⟨p, 2, none⟩ = false
  c3 : W.cell? ⟨p, 3, none⟩ = some v3
  f3 : W.frozen? ⟨p, 3, none⟩ = false
  c4 : W.cell? ⟨p, 4, none⟩ = some v4
  f4 : W.frozen? ⟨p, 4, none⟩ = false
  c5 : W.cell? ⟨p, 5, none⟩ = some v5
  f5 : W.frozen? ⟨p, 5, none⟩ = false
theorem S6.next {w w' : World} {p : Nat} {v0 v1 v2 v3 v4 v5 : Value} (h : S6 w p v0 v1 v2 v3 v4 v5) (hb : Below w.heap.size w w') : S6 w' p v0 v1 v2 v3 v4 v5 where
  lt := Nat.lt_of_lt_of_le h.lt hb.size
  c0 := (hb.cell (p := ⟨p, 0, none⟩) h.lt).trans h.c0
  f0 := (hb.frozen (p := ⟨p, 0, none⟩) h.lt).trans h.f0
  c1 := (hb.cell (p := ⟨p, 1, none⟩) h.lt).trans h.c1
  f1 := (hb.frozen (p := ⟨p, 1, none⟩) h.lt).trans h.f1
  c2 := (hb.cell (p := ⟨p, 2, none⟩) h.lt).trans h.c2
  f2 := (hb.frozen (p := ⟨p, 2, none⟩) h.lt).trans h.f2
  c3 := (hb.cell (p := ⟨p, 3, none⟩) h.lt).trans h.c3
  f3 := (hb.frozen (p := ⟨p, 3, none⟩) h.lt).trans h.f3
  c4 := (hb.cell (p := ⟨p, 4, none⟩) h.lt).trans h.c4
  f4 := (hb.frozen (p := ⟨p, 4, none⟩) h.lt).trans h.f4
  c5 := (hb.cell (p := ⟨p, 5, none⟩) h.lt).trans h.c5
  f5 := (hb.frozen (p := ⟨p, 5, none⟩) h.lt).trans h.f5
theorem six_new (w : World) (s0 s1 s4 : ByteArray) (x2 x3 : Int) (b5 : Bool) : S6 (w.alloc (.cells #[.string s0, .string s1, .int .u64 x2, .int .u64 x3, .string s4, .bool b5] 56)) w.heap.size (.string s0) (.string s1) (.int .u64 x2) (.int .u64 x3) (.string s4) (.bool b5) := by
  refine ⟨by simp, ?_, ?_, ?_, ?_, ?_, ?_, ?_, ?_, ?_, ?_, ?_, ?_⟩
  all_goals simp [go_sem]
theorem S6.text {W : World} {p : Nat} {v0 v1 v2 v3 v4 v5 : Value} (h : S6 W p v0 v1 v2 v3 v4 v5) (s : ByteArray) : S6 (W.setCell ⟨p, 4, none⟩ (.string s)) p v0 v1 v2 v3 (.string s) v5 where
  lt := by have := h.lt; simpa [World.setCell] using this
  c0 := by simp [go_sem, h.c0]
  f0 := by simp [go_sem, h.f0]
  c1 := by simp [go_sem, h.c1]
  f1 := by simp [go_sem, h.f1]
  c2 := by simp [go_sem, h.c2]
  f2 := by simp [go_sem, h.f2]
  c3 := by simp [go_sem, h.c3]
  f3 := by simp [go_sem, h.f3]
  c4 := by simp [go_sem, h.c4]
  f4 := by simp [go_sem, h.f4]
  c5 := by simp [go_sem, h.c5]
  f5 := by simp [go_sem, h.f5]
theorem S6.other {W : World} {p q : Nat} {v0 v1 v2 v3 v4 v5 : Value} (h : S6 W p v0 v1 v2 v3 v4 v5) (hq : p ≠ q) (v : Value) : S6 (W.setCell ⟨q, 4, none⟩ v) p v0 v1 v2 v3 v4 v5 where
  lt := by have := h.lt; simpa [World.setCell] using this
  c0 := by simp [go_sem, h.c0, hq]
  f0 := by simp [go_sem, h.f0, hq]
  c1 := by simp [go_sem, h.c1, hq]
  f1 := by simp [go_sem, h.f1, hq]
  c2 := by simp [go_sem, h.c2, hq]
  f2 := by simp [go_sem, h.f2, hq]
  c3 := by simp [go_sem, h.c3, hq]
  f3 := by simp [go_sem, h.f3, hq]
  c4 := by simp [go_sem, h.c4, hq]
  f4 := by simp [go_sem, h.f4, hq]
  c5 := by simp [go_sem, h.c5, hq]
  f5 := by simp [go_sem, h.f5, hq]

theorem fits_len {l : LL} (h : fitsB l = true) : l.length ≤ 2147483647 := by
  unfold fitsB at h
  rw [Bool.and_eq_true] at h
  exact of_decide_eq_true h.1
theorem names_ne {l : LL} (h : ordB l = true) : ∀ p ∈ l, 1 ≤ p.1.size := by
  unfold ordB fewB at h
  rw [Bool.and_eq_true, Bool.and_eq_true, List.all_eq_true] at h
  intro p hp
  have := h.1.1 p hp
  unfold few1B at this
  rw [Bool.and_eq_true, Bool.and_eq_true] at this
  have h1 := this.1.1
  rcases Nat.eq_zero_or_pos p.1.size with e | e
  · rw [e] at h1
    cases h1
  · exact e

set_option maxHeartbeats 2000000 in
set_option maxRecDepth 100000 in
theorem setLaw_calls (a : Option Addr) (cap : Nat) (l : LL) (w : World) (hl : Labs w a l) (hm : l.length ≤ maxLen) (hg : GlobZ w) :
    Calls Tryz.prog 8 #[.slice a l.length cap] w fun e w' => e = .returned (.bool true) ∧ Below w.heap.size w w' := by
  have HG := Aside0.mk hg
  have HL := Aside0.mk hl
  have hm' : l.length ≤ 9223372036854775807 := hm
  clear hg hl hm
  cases hf : fitsB l with
  | false =>
    have HF := Aside0.mk hf
    clear hf
    go_enter Tryz.func8, Tryz.ntmps8
    go_wp2_with fail
    refine (fits_calls a cap l _ HL.out hm').mono ?_
    rintro e w1 ⟨rfl, hb1⟩
    rw [HF.out]
    have HB1 := Aside0.mk hb1; clear hb1
    go_wp2
    go_ret
    exact ⟨rfl, HB1.out⟩
  | true =>
    have HF := Aside0.mk hf
    have hlen := fits_len hf
    clear hf
    cases hs : setB l with
    | false =>
      have HS := Aside0.mk hs
      clear hs
      go_enter Tryz.func8, Tryz.ntmps8
      go_wp2_with fail
      refine (fits_calls a cap l _ HL.out hm').mono ?_
      rintro e w1 ⟨rfl, hb1⟩
      rw [HF.out]
      have HB1 := Aside0.mk hb1; clear hb1
      go_wp2_with fail
      refine (setFits_calls a cap l _ (HL.out.next HB1.out) HF.out).mono ?_
      rintro e w2 ⟨rfl, hb2⟩
      rw [HS.out]
      have HB2 := Aside0.mk (below_step HB1.out hb2); clear hb2
      go_wp2_with fail
      refine (awake_calls _ (HG.out.glob.next HB2.out)).mono ?_
      rintro e w3 ⟨rfl, hb3⟩
      have HB3 := Aside0.mk (below_step HB2.out hb3); clear hb3
      go_wp2
      go_ret
      exact ⟨rfl, HB3.out⟩
    | true =>
      have HS := Aside0.mk hs
      have hob : ordB l = true := by
        unfold setB at hs
        rw [Bool.and_eq_true] at hs
        exact hs.2
      have HO := Aside0.mk (ord_of hob)
      have HNM := Aside0.mk (names_ne hob)
      obtain ⟨u, hu, hu2⟩ := fnv_nat (flatL l)
      have HU := Aside0.mk (And.intro hu (And.intro hu2 ((fing_eq (ord_of hob).2).trans hu)))
      have HST := Aside0.mk (set_text tabsZ (ord_of hob).2)
      clear hs hob hu hu2
      go_enter Tryz.func8, Tryz.ntmps8
      go_wp2_with fail
      refine (fits_calls a cap l _ HL.out hm').mono ?_
      rintro e w1 ⟨rfl, hb1⟩
      rw [HF.out]
      have HB1 := Aside0.mk hb1; clear hb1
      go_wp2_with fail
      refine (setFits_calls a cap l _ (HL.out.next HB1.out) HF.out).mono ?_
      rintro e w2 ⟨rfl, hb2⟩
      rw [HS.out]
      have HB2 := Aside0.mk (below_step HB1.out hb2); clear hb2
      go_wp2_with fail
      have HG2 := Aside0.mk (HG.out.next HB2.out)
      refine (setAbout_calls tabsZ a cap l u _ (HL.out.next HB2.out) (once_of_rise HO.out.2) HO.out.1 HNM.out HU.out.2.2 HU.out.2.1 HG2.out.prin HG2.out.utf).mono ?_
      rintro e w3 ⟨rfl, hb3⟩
      rw [HST.out, HU.out.2.2]
      have HB3 := Aside0.mk (below_step HB2.out hb3); clear hb3
      obtain ⟨s0, hs0⟩ : ∃ s0, setT tabsZ l = s0 := ⟨_, rfl⟩
      obtain ⟨s1, hs1⟩ : ∃ s1, metT tabsZ l = s1 := ⟨_, rfl⟩
      obtain ⟨x2, hx2⟩ : ∃ x2, (u : Int) = x2 := ⟨_, rfl⟩
      obtain ⟨x3, hx3⟩ : ∃ x3, fastH l = x3 := ⟨_, rfl⟩
      obtain ⟨s4, hs4⟩ : ∃ s4, strOfNums (hexW 16 u) = s4 := ⟨_, rfl⟩
      obtain ⟨b5, hb5⟩ : ∃ b5, valB l = b5 := ⟨_, rfl⟩
      rw [hs0, hs1, hx2, hx3, hs4, hb5]
      have HV := Aside0.mk (And.intro hs0 (And.intro hs1 (And.intro hx2 (And.intro hx3 (And.intro hs4 hb5)))))
      clear hs0 hs1 hx2 hx3 hs4 hb5
      have HRD := Aside0.mk (fun W => fpRead_calls u HU.out.2.1 W)
      rw [HV.out.2.2.1, HV.out.2.2.2.2.1] at HRD
      have HP3 := Aside0.mk (six_new w3 s0 s1 s4 x2 x3 b5)
      have HB4 := Aside0.mk (below_alloc HB3.out (.cells #[.string s0, .string s1, .int .u64 x2, .int .u64 x3, .string s4, .bool b5] 56))
      have h11 : w.heap.size ≤ w3.heap.size := HB3.out.size
      have k4 := HP3.out.c4
      go_wp2_with fail
      obtain ⟨w4, hw4⟩ : ∃ w4, w3.alloc (.cells #[.string s0, .string s1, .int .u64 x2, .int .u64 x3, .string s4, .bool b5] 56) = w4 := ⟨_, rfl⟩
      obtain ⟨p1, hp1⟩ : ∃ p1, w3.heap.size = p1 := ⟨_, rfl⟩
      rw [hw4] at HP3 HB4 ⊢
      rw [hp1] at HP3 ⊢
      rw [hp1] at h11
      clear k4 hw4 hp1
      refine (HRD.out _).mono ?_
      rintro e w5 ⟨rfl, hb5⟩
      have HB5 := Aside0.mk (below_step HB4.out hb5)
      have HP5 := Aside0.mk (HP3.out.next hb5)
      have HG5 := Aside0.mk (HG.out.next HB5.out)
      clear hb5
      go_wp2_with fail
      refine (specText_calls tabsZ a cap l _ (HL.out.next HB5.out) HO.out.1 HG5.out.prin HG5.out.utf).mono ?_
      rintro e w6 ⟨rfl, hb6⟩
      rw [HV.out.1]
      have HB6 := Aside0.mk (below_step HB5.out hb6)
      have HP6 := Aside0.mk (HP5.out.next hb6)
      have HG6 := Aside0.mk (HG.out.next HB6.out)
      clear hb6
      go_wp2_with fail
      refine (specMetric_calls tabsZ a cap l _ (HL.out.next HB6.out) HO.out.1 (once_of_rise HO.out.2) HG6.out.prin HG6.out.utf).mono ?_
      rintro e w7 ⟨rfl, hb7⟩
      rw [HV.out.2.1]
      have HB7 := Aside0.mk (below_step HB6.out hb7)
      have HP7 := Aside0.mk (HP6.out.next hb7)
      clear hb7
      go_wp2_with fail
      refine (flat_calls a cap l _ (HL.out.next HB7.out) HO.out.1).mono ?_
      rintro e w8 ⟨v8, rfl, ho⟩
      obtain ⟨a8, cap8, rfl, hby⟩ := byts_own ho
      have hfl := flatL_len HO.out.1.2
      have HFL := Aside0.mk (show (flatL l).length ≤ 1000000 by have := HO.out.1.1; omega)
      have HBY := Aside0.mk hby
      have HB8 := Aside0.mk (below_step HB7.out ho.2.1)
      have HP8 := Aside0.mk (HP7.out.next ho.2.1)
      clear ho hby hfl
      go_wp2_with fail
      refine (fnv_calls a8 cap8 (flatL l) _ HBY.out HFL.out).mono ?_
      rintro e w9 ⟨rfl, rfl⟩
      rw [HU.out.1, HV.out.2.2.1]
      go_wp2_with fail
      refine (specFast_calls a cap l _ (HL.out.next HB8.out) HO.out.1).mono ?_
      rintro e w10 ⟨rfl, hb10⟩
      rw [HV.out.2.2.2.1]
      have HB10 := Aside0.mk (below_step HB8.out hb10)
      have HP10 := Aside0.mk (HP8.out.next hb10)
      have HG10 := Aside0.mk (HG.out.next HB10.out)
      clear hb10
      go_wp2_with fail
      refine (setValid_calls a cap l _ (HL.out.next HB10.out) HO.out.1 HG10.out.utf).mono ?_
      rintro e w11 ⟨rfl, hb11⟩
      rw [HV.out.2.2.2.2.2]
      have HB11 := Aside0.mk (below_step HB10.out hb11)
      have HP11 := Aside0.mk (HP10.out.next hb11)
      clear hb11
      have HQ := Aside0.mk (six_new w11 s0 s1 ⟨#[]⟩ x2 x3 b5)
      have HB12 := Aside0.mk (below_alloc HB11.out (.cells #[.string s0, .string s1, .int .u64 x2, .int .u64 x3, .string ⟨#[]⟩, .bool b5] 56))
      have HP12 := Aside0.mk (HP11.out.next (below_alloc (Below.refl _ _) (.cells #[.string s0, .string s1, .int .u64 x2, .int .u64 x3, .string ⟨#[]⟩, .bool b5] 56)))
      have HNE := Aside0.mk (show p1 ≠ w11.heap.size by have := HP11.out.lt; omega)
      have h12 : w.heap.size ≤ w11.heap.size := HB11.out.size
      have HHX := Aside0.mk (fun (W : World) (h : Below w.heap.size w W) => specHex_calls u HU.out.2.1 W (HG.out.next h).ctz (HG.out.next h).glob.1)
      rw [HV.out.2.2.1, HV.out.2.2.2.2.1] at HHX
      have k2 := HQ.out.c2
      go_wp2_with fail
      obtain ⟨w12, hw12⟩ : ∃ w12, w11.alloc (.cells #[.string s0, .string s1, .int .u64 x2, .int .u64 x3, .string ⟨#[]⟩, .bool b5] 56) = w12 := ⟨_, rfl⟩
      obtain ⟨p2, hp2⟩ : ∃ p2, w11.heap.size = p2 := ⟨_, rfl⟩
      rw [hw12] at HQ HB12 HP12 ⊢
      rw [hp2] at HQ HNE h12 ⊢
      clear k2 hw12 hp2
      refine (HHX.out _ HB12.out).mono ?_
      rintro e w13 ⟨rfl, hb13⟩
      have HB13 := Aside0.mk (below_step HB12.out hb13)
      have HP13 := Aside0.mk (HP12.out.next hb13)
      have HQ13 := Aside0.mk (HQ.out.next hb13)
      clear hb13
      have g4 := HQ13.out.c4
      have e4 := HQ13.out.f4
      have HQ14 := Aside0.mk (HQ13.out.text s4)
      have HP14 := Aside0.mk (HP13.out.other HNE.out (.string s4))
      have HB14 := Aside0.mk (HB13.out.setCell (p := ⟨p2, 4, none⟩) h12 (.string s4))
      go_wp2_with fail
      obtain ⟨w14, hw14⟩ : ∃ w14, w13.setCell ⟨p2, 4, none⟩ (.string s4) = w14 := ⟨_, rfl⟩
      rw [hw14] at HQ14 HP14 HB14 ⊢
      clear g4 e4 hw14
      refine (awake_calls _ (HG.out.glob.next HB14.out)).mono ?_
      rintro e w15 ⟨rfl, hb15⟩
      have HB15 := Aside0.mk (below_step HB14.out hb15)
      have hP := HP14.out.next hb15
      have hQ := HQ14.out.next hb15
      clear hb15
      have y0 := hP.c0
      have y1 := hP.c1
      have y2 := hP.c2
      have y3 := hP.c3
      have y4 := hP.c4
      have y5 := hP.c5
      have z0 := hQ.c0
      have z1 := hQ.c1
      have z2 := hQ.c2
      have z3 := hQ.c3
      have z4 := hQ.c4
      have z5 := hQ.c5
      have hE := setEq s0 s1 s4 x2 x3 b5
      have hGd := setGuard s0 s1 s4 x2 x3 b5
      clear hP hQ
      go_wp2_with fail
      go_ret
      exact ⟨rfl, HB15.out⟩
end Go.Proofs.YtobbfenkdnaanaaGreatDoor
