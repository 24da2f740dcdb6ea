/- zzFits9, the reference's AlertValid, by contract. -/
import Derived.Test.YtobbfenkdnaanaaGreatDoorAlD
set_option linter.unusedVariables false
set_option linter.unusedSimpArgs false
namespace Go.Proofs.YtobbfenkdnaanaaGreatDoor
open Go.RowKit Go.Maps Go.WideMaps Go.Sort

set_option maxHeartbeats 1000000 in
set_option maxRecDepth 100000 in
theorem fits9_calls (a a' : Option Addr) (cap cap' : Nat) (la lb : LL) (s e : Int) (w : World) (hla : Labs w a la) (hlb : Labs w a' lb) (hma : la.length ≤ 9223372036854775807) (hmb : lb.length ≤ 9223372036854775807) :
    Calls Tryz.prog 18 #[.agg #[.slice a la.length cap, .slice a' lb.length cap', .int .i64 s, .int .i64 e]] w fun r w' => r = .returned (.bool (fitsB la && fitsB lb)) ∧ Below w.heap.size w w' := by
  have hk : Below w.heap.size w (w.alloc (Obj.cells #[Value.slice a la.length cap, Value.slice a' lb.length cap', Value.int IntKind.i64 s, Value.int IntKind.i64 e] 31)) := below_alloc (Below.refl _ _) _
  have HK := Aside0.mk hk
  have HL := Aside0.mk (And.intro (hla.next hk) (hlb.next hk))
  clear hla hlb hk
  cases hfa : fitsB la with
  | false =>
    have HFA := Aside0.mk hfa
    clear hfa
    go_enter Tryz.func18, Tryz.ntmps18
    go_wp2_with fail
    refine (fits_calls a cap la _ HL.out.1 hma).mono ?_
    rintro r w1 ⟨rfl, hb1⟩
    rw [HFA.out]
    have HB1 := Aside0.mk (below_step HK.out hb1)
    clear hb1
    go_wp2
    go_ret
    exact ⟨rfl, HB1.out⟩
  | true =>
    have HFA := Aside0.mk hfa
    clear hfa
    go_enter Tryz.func18, Tryz.ntmps18
    go_wp2_with fail
    refine (fits_calls a cap la _ HL.out.1 hma).mono ?_
    rintro r w1 ⟨rfl, hb1⟩
    rw [HFA.out]
    have e1 := hb1.cell (p := ⟨w.heap.size, 1, none⟩) (by simp)
    simp [go_sem] at e1
    have HR1 := Aside0.mk hb1
    have HB1 := Aside0.mk (below_step HK.out hb1)
    clear hb1
    go_wp2_with fail
    refine (fits_calls a' cap' lb _ (HL.out.2.next HR1.out) hmb).mono ?_
    rintro r w2 ⟨rfl, hb2⟩
    have HB2 := Aside0.mk (below_step HB1.out hb2)
    clear hb2
    cases hfb : fitsB lb with
    | false =>
      have HFB := Aside0.mk hfb
      clear hfb
      go_wp2
      go_ret
      exact ⟨by rw [HFB.out]; rfl, HB2.out⟩
    | true =>
      have HFB := Aside0.mk hfb
      clear hfb
      go_wp2
      go_ret
      exact ⟨by rw [HFB.out]; rfl, HB2.out⟩

/-- The reference's valid alert. -/
def rAlB (s e : Int) (la lb : LL) : Bool := !decide (s = 0) && (decide (e = 0) || decide (s ≤ e)) && !decide (la.length = 0) && valB la && valB lb
theorem rAl_eq (s e : Int) (la lb : LL) (hs : 0 ≤ s) (he : 0 ≤ e) : alB (momS s) (momS e) la lb = rAlB s e la lb := by
  unfold alB rAlB momS
  by_cases h1 : s = 0
  · simp [h1]
  · by_cases h2 : e = 0
    · rw [if_neg h1, if_pos h2]
      have c1 : ¬ s + 62135596800 = 0 := by omega
      simp only [h1, h2, c1, decide_true, decide_false, Bool.true_or, Bool.not_false, Bool.true_and]
      cases valB la <;> cases valB lb <;> cases decide (la.length = 0) <;> rfl
    · rw [if_neg h1, if_neg h2]
      have c1 : ¬ s + 62135596800 = 0 := by omega
      have c2 : ¬ e + 62135596800 = 0 := by omega
      have c3 : decide (e + 62135596800 < s + 62135596800) = !decide (s ≤ e) := by
        by_cases h : s ≤ e
        · rw [decide_eq_true h, decide_eq_false (by omega)]; rfl
        · rw [decide_eq_false h, decide_eq_true (by omega)]; rfl
      rw [c3]
      simp only [h1, h2, c1, c2, decide_false, Bool.false_or, Bool.not_false, Bool.true_and, Bool.not_not]
      cases valB la <;> cases valB lb <;> cases decide (la.length = 0) <;> cases decide (s ≤ e) <;> rfl
theorem res_eq (e t : Int) (he : 0 ≤ e) (ht : 1 ≤ t) : resB (momS e) (t + 62135596800) = (!decide (e = 0) && decide (e ≤ t)) := by
  unfold resB momS
  by_cases h : e = 0
  · simp [h]
  · rw [if_neg h]
    have c1 : ¬ e + 62135596800 = 0 := by omega
    rw [decide_eq_false c1, decide_eq_false h]
    by_cases h2 : e ≤ t
    · rw [decide_eq_true h2, decide_eq_false (by omega)]; rfl
    · rw [decide_eq_false h2, decide_eq_true (by omega)]; rfl

set_option maxHeartbeats 1000000 in
set_option maxRecDepth 100000 in
theorem ralert_calls (a a' : Option Addr) (cap cap' : Nat) (la lb : LL) (s e : Int) (w : World) (hla : Labs w a la) (hlb : Labs w a' lb) (hsa : Sized la) (hsb : Sized lb) (hT : Tabs w) :
    Calls Tryz.prog 19 #[.agg #[.slice a la.length cap, .slice a' lb.length cap', .int .i64 s, .int .i64 e]] w fun r w' => r = .returned (.bool (rAlB s e la lb)) ∧ Below w.heap.size w w' := by
  have hk : Below w.heap.size w (w.alloc (Obj.cells #[Value.slice a la.length cap, Value.slice a' lb.length cap', Value.int IntKind.i64 s, Value.int IntKind.i64 e] 31)) := below_alloc (Below.refl _ _) _
  have HK := Aside0.mk hk
  have HL := Aside0.mk (And.intro (hla.next hk) (hlb.next hk))
  have HSA := Aside0.mk hsa
  have HSB := Aside0.mk hsb
  have HT := Aside0.mk (hT.next hk)
  clear hla hlb hk hsa hsb hT
  by_cases h1 : s = 0
  · have HR := Aside0.mk (show rAlB s e la lb = false by simp [rAlB, h1])
    have c1 : (s != 0) = false := by simp [h1]
    clear h1
    go_enter Tryz.func19, Tryz.ntmps19
    go_wp2
    go_ret
    exact ⟨by rw [HR.out]; rfl, below_alloc (Below.refl _ _) _⟩
  · have c1 : (s != 0) = true := bne_iff_ne.2 h1
    by_cases h2 : (decide (e = 0) || decide (s ≤ e)) = false
    · have HR := Aside0.mk (show rAlB s e la lb = false by unfold rAlB; rw [h2]; simp)
      rw [Bool.or_eq_false_iff] at h2
      have c2 : (e == 0) = false := beq_eq_false_iff_ne.2 (of_decide_eq_false h2.1)
      have c3 : decide (s ≤ e) = false := h2.2
      clear h1 h2
      go_enter Tryz.func19, Tryz.ntmps19
      go_wp2
      all_goals first | (go_ret; exact ⟨by rw [HR.out]; rfl, below_alloc (Below.refl _ _) _⟩) | go_show
    · have h2' : (decide (e = 0) || decide (s ≤ e)) = true := by cases h : (decide (e = 0) || decide (s ≤ e)) with
        | true => rfl
        | false => exact absurd h h2
      have HH := Aside0.mk (show rAlB s e la lb = (!decide (la.length = 0) && valB la && valB lb) by unfold rAlB; rw [h2', decide_eq_false h1]; rfl)
      clear h2
      cases hez : decide (e = 0) with
      | true =>
        have c2 : (e == 0) = true := by simpa using hez
        clear h1 hez h2'
        by_cases hz : la.length = 0
        · have c4 : decide ((0 : Int) < (la.length : Int)) = false := decide_eq_false (by omega)
          have c5 : decide (0 < la.length) = false := decide_eq_false (by omega)
          have HR := Aside0.mk (show rAlB s e la lb = false by rw [HH.out, decide_eq_true hz]; rfl)
          clear hz
          go_enter Tryz.func19, Tryz.ntmps19
          go_wp2
          all_goals first | (go_ret; exact ⟨by rw [HR.out]; rfl, below_alloc (Below.refl _ _) _⟩) | go_show
        · have c4 : decide ((0 : Int) < (la.length : Int)) = true := decide_eq_true (by omega)
          have c5 : decide (0 < la.length) = true := decide_eq_true (by omega)
          have HZ := Aside0.mk (show rAlB s e la lb = (valB la && valB lb) by rw [HH.out, decide_eq_false hz]; rfl)
          clear hz
          go_enter Tryz.func19, Tryz.ntmps19
          go_wp2_with fail
          refine (setValid_calls a cap la _ HL.out.1 HSA.out HT.out).mono ?_
          rintro r w1 ⟨rfl, hb1⟩
          have e1 := hb1.cell (p := ⟨w.heap.size, 1, none⟩) (by simp)
          simp [go_sem] at e1
          have HR1 := Aside0.mk hb1
          have HB1 := Aside0.mk (below_step HK.out hb1)
          clear hb1
          cases hva : valB la with
          | false =>
            have HVA := Aside0.mk hva
            clear hva
            go_wp2
            go_ret
            exact ⟨by rw [HZ.out, HVA.out]; rfl, HB1.out⟩
          | true =>
            have HVA := Aside0.mk hva
            clear hva
            go_wp2_with fail
            refine (setValid_calls a' cap' lb _ (HL.out.2.next HR1.out) HSB.out (HT.out.next HR1.out)).mono ?_
            rintro r w2 ⟨rfl, hb2⟩
            have HB2 := Aside0.mk (below_step HB1.out hb2)
            clear hb2
            go_wp2
            go_ret
            exact ⟨by rw [HZ.out, HVA.out]; rfl, HB2.out⟩
      | false =>
        have c2 : (e == 0) = false := beq_eq_false_iff_ne.2 (of_decide_eq_false hez)
        have c3 : decide (s ≤ e) = true := by rw [hez] at h2'; simpa using h2'
        clear h1 hez h2'
        by_cases hz : la.length = 0
        · have c4 : decide ((0 : Int) < (la.length : Int)) = false := decide_eq_false (by omega)
          have c5 : decide (0 < la.length) = false := decide_eq_false (by omega)
          have HR := Aside0.mk (show rAlB s e la lb = false by rw [HH.out, decide_eq_true hz]; rfl)
          clear hz
          go_enter Tryz.func19, Tryz.ntmps19
          go_wp2
          all_goals first | (go_ret; exact ⟨by rw [HR.out]; rfl, below_alloc (Below.refl _ _) _⟩) | go_show
        · have c4 : decide ((0 : Int) < (la.length : Int)) = true := decide_eq_true (by omega)
          have c5 : decide (0 < la.length) = true := decide_eq_true (by omega)
          have HZ := Aside0.mk (show rAlB s e la lb = (valB la && valB lb) by rw [HH.out, decide_eq_false hz]; rfl)
          clear hz
          go_enter Tryz.func19, Tryz.ntmps19
          go_wp2_with fail
          refine (setValid_calls a cap la _ HL.out.1 HSA.out HT.out).mono ?_
          rintro r w1 ⟨rfl, hb1⟩
          have e1 := hb1.cell (p := ⟨w.heap.size, 1, none⟩) (by simp)
          simp [go_sem] at e1
          have HR1 := Aside0.mk hb1
          have HB1 := Aside0.mk (below_step HK.out hb1)
          clear hb1
          cases hva : valB la with
          | false =>
            have HVA := Aside0.mk hva
            clear hva
            go_wp2
            go_ret
            exact ⟨by rw [HZ.out, HVA.out]; rfl, HB1.out⟩
          | true =>
            have HVA := Aside0.mk hva
            clear hva
            go_wp2_with fail
            refine (setValid_calls a' cap' lb _ (HL.out.2.next HR1.out) HSB.out (HT.out.next HR1.out)).mono ?_
            rintro r w2 ⟨rfl, hb2⟩
            have HB2 := Aside0.mk (below_step HB1.out hb2)
            clear hb2
            go_wp2
            go_ret
            exact ⟨by rw [HZ.out, HVA.out]; rfl, HB2.out⟩
end Go.Proofs.YtobbfenkdnaanaaGreatDoor
