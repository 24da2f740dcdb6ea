/- An alert's Validate, by contract. -/
import Derived.Test.YtobbfenkdnaanaaGreatDoorAlC
import Derived.Handy
import Derived.Deep.RegionHeld3
import Derived.Deep.DeepCutAuto
set_option linter.unusedVariables false
set_option linter.unusedSimpArgs false
namespace Go.Proofs.YtobbfenkdnaanaaGreatDoor
open Go.RowKit Go.Maps Go.WideMaps Go.Sort

/-- An alert is valid. -/
def alB (s e : Int) (la lb : LL) : Bool := !decide (s = 0) && (decide (e = 0) || !decide (e < s)) && valB la && !decide (la.length = 0) && valB lb
/-- What Validate of an alert says. -/
def AVQ (b : Bool) (v : Value) : Prop := (b = true ∧ v = .nilIface) ∨ (b = false ∧ ∃ t x, v = .iface t x)

set_option maxRecDepth 100000 in
theorem eerr_calls (b : Nat) (s : ByteArray) (w : World) (h : w.cell? ⟨b, 0, none⟩ = some (.string s)) :
    Calls Tryz.prog 373 #[.pointer (some ⟨b, 0, none⟩)] w fun r w' => r = .returned (.string s) ∧ Below w.heap.size w w' := by
  go_enter Tryz.func373, Tryz.ntmps373
  go_wp2
  go_ret
  exact ⟨rfl, Below.refl _ _⟩

set_option maxHeartbeats 2000000 in
set_option maxRecDepth 100000 in
theorem avalid_calls (y b1 b2 na nb : Nat) (s e : Int) (la lb : LL) (w : World) (h : AlertAt w y b1 b2 s e) (ha : MapIs w b1 na la) (hb : MapIs w b2 nb lb) (hsa : Sized la) (hsb : Sized lb) (hT : Tabs w) :
    Calls Tryz.prog 64 #[.pointer (some ⟨y, 0, none⟩)] w fun r w' => (∃ v, r = .returned v ∧ AVQ (alB s e la lb) v) ∧ Below w.heap.size w w' := by
  have HM := Aside0.mk (And.intro ha hb)
  have HSA := Aside0.mk (And.intro hsa hsb)
  have HT := Aside0.mk hT
  have HA := Aside0.mk h
  have HL0 := Aside0.mk h.1
  obtain ⟨hl, h0, h1, h2, h3, h4, h5⟩ := h
  clear hl ha hb hsa hsb hT h0 h1 h4 h5
  go_enter Tryz.func64, Tryz.ntmps64
  go_wp2_with fail
  refine (isZero_calls s _).mono ?_
  rintro r w1 ⟨rfl, hb1⟩
  have HB1 := Aside0.mk hb1
  clear hb1 h2 h3
  by_cases hs : s = 0
  · have HR := Aside0.mk (show alB s e la lb = false by simp [alB, hs])
    rw [decide_eq_true hs]
    clear hs
    go_wp2_with fail
    refine (new_err _ _).mono ?_
    rintro r w2 ⟨tt, xx, rfl, hb2⟩
    have HB2 := Aside0.mk (below_step HB1.out hb2)
    clear hb2
    go_wp2
    go_ret
    exact ⟨⟨_, rfl, .inr ⟨HR.out, _, _, rfl⟩⟩, HB2.out⟩
  · rw [decide_eq_false hs]
    have HS0 := Aside0.mk hs
    clear hs
    obtain ⟨hl, h0, h1, h2, h3, h4, h5⟩ := HA.out.next HB1.out
    have HL := Aside0.mk hl
    clear hl h0 h1
    go_wp2_with fail
    go_cut [27] (fun v27 w' => v27 = .bool (!decide (e = 0) && decide (e < s)) ∧ Below w.heap.size w w')
    case first =>
      by_cases he : e = 0
      · have dz : decide (e = 0) = true := decide_eq_true he
        have HE0 := Aside0.mk he
        clear he
        refine wp_region_any (by kernel_rfl) ?_
        change wpAny _ _ _ _ _ _ _ (World.drew _)
        refine wpAny_ready (rs := [0]) (by kernel_rfl) (by simp) (AllReady.cons rfl (fun K hK => ?_) AllReady.nil)
        go_simp
        refine hK _ _ ?_; clear hK K
        refine wpAny_ready (rs := [1]) (by kernel_rfl) (by simp) (AllReady.cons rfl (fun K hK => ?_) AllReady.nil)
        go_simp
        refine hK _ _ ?_; clear hK K
        refine wpAny_ready (rs := [2]) (by kernel_rfl) (by simp) (AllReady.cons rfl (fun K hK => ?_) AllReady.nil)
        go_simp
        refine hK _ _ ?_; clear hK K
        refine wpAny_ready (rs := [3]) (by kernel_rfl) (by simp) (AllReady.cons rfl (fun K hK => ?_) AllReady.nil)
        go_simp
        refine hK _ _ ?_; clear hK K
        refine wpAny_ready (rs := [4]) (by kernel_rfl) (by simp) (AllReady.cons rfl (fun K hK => ?_) AllReady.nil)
        go_simp
        go_wp2_with fail
        refine (isZero_calls e _).mono ?_; rintro r w2 ⟨rfl, hb2⟩; rw [dz]
        have HB2 := Aside0.mk (below_step HB1.out.drew hb2)
        clear hb2
        go_wp2_with fail
        refine wpAny_ready (rs := [5]) (by kernel_rfl) (by simp) (AllReady.cons rfl (fun K hK => ?_) AllReady.nil)
        go_simp
        refine hK _ _ ?_; clear hK K
        refine wpAny_ready (rs := [6]) (by kernel_rfl) (by simp) (AllReady.cons rfl (fun K hK => ?_) AllReady.nil)
        go_simp
        refine hK _ _ ?_; clear hK K
        refine wpAny_take (i := 7) (v := undef) rfl (by kernel_rfl) (by kernel_rfl) (by kernel_rfl) (fun _ _ _ h => h) (Or.inr ⟨by kernel_rfl, rfl⟩) ?_
        refine wpAny_take (i := 8) (v := undef) rfl (by kernel_rfl) (by kernel_rfl) (by kernel_rfl) (fun _ _ _ h => h) (Or.inr ⟨by kernel_rfl, rfl⟩) ?_
        refine wpAny_take (i := 9) (v := undef) rfl (by kernel_rfl) (by kernel_rfl) (by kernel_rfl) (fun _ _ _ h => h) (Or.inr ⟨by kernel_rfl, rfl⟩) ?_
        refine wpAny_take (i := 10) (v := undef) rfl (by kernel_rfl) (by kernel_rfl) (by kernel_rfl) (fun _ _ _ h => h) (Or.inr ⟨by kernel_rfl, rfl⟩) ?_
        refine wpAny_take (i := 11) (v := undef) rfl (by kernel_rfl) (by kernel_rfl) (by kernel_rfl) (fun _ _ _ h => h) (Or.inr ⟨by kernel_rfl, rfl⟩) ?_
        refine wpAny_take (i := 12) (v := undef) rfl (by kernel_rfl) (by kernel_rfl) (by kernel_rfl) (fun _ _ _ h => h) (Or.inr ⟨by kernel_rfl, rfl⟩) ?_
        refine wpAny_take (i := 13) (v := undef) rfl (by kernel_rfl) (by kernel_rfl) (by kernel_rfl) (fun _ _ _ h => h) (Or.inr ⟨by kernel_rfl, rfl⟩) ?_
        refine wpAny_take (i := 14) (v := undef) rfl (by kernel_rfl) (by kernel_rfl) (by kernel_rfl) (fun _ _ _ h => h) (Or.inr ⟨by kernel_rfl, rfl⟩) ?_
        refine wpAny_take (i := 15) (v := undef) rfl (by kernel_rfl) (by kernel_rfl) (by kernel_rfl) (fun _ _ _ h => h) (Or.inr ⟨by kernel_rfl, rfl⟩) ?_
        refine wpAny_ready (rs := [16]) (by kernel_rfl) (by simp) (AllReady.cons rfl (fun K hK => ?_) AllReady.nil)
        go_simp
        refine hK _ _ ?_; clear hK K
        refine wpAny_done (by kernel_rfl) ?_ _
        go_wp2_with fail
        go_meet
        exact ⟨by rw [decide_eq_true HE0.out]; rfl, HB2.out⟩
      · have dz : decide (e = 0) = false := decide_eq_false he
        have HE0 := Aside0.mk he
        clear he
        first
        | go_region_held3 (fun w' => w'.cell? ⟨y, 2, none⟩ = some (.int .i64 s) ∧ w'.cell? ⟨y, 3, none⟩ = some (.int .i64 0) ∧ w'.cell? ⟨y, 4, none⟩ = some (.int .i64 e) ∧ w'.cell? ⟨y, 5, none⟩ = some (.int .i64 0)) (first | assumption | go_keep) (first
            | (go_at_call 116; refine (isZero_calls e _).mono ?_; rintro r w2 ⟨rfl, hb2⟩; rw [dz]; have hS := And.intro ((hb2.cell (p := ⟨y, 2, none⟩) HL.out).trans h2) (And.intro ((hb2.cell (p := ⟨y, 3, none⟩) HL.out).trans h3) (And.intro ((hb2.cell (p := ⟨y, 4, none⟩) HL.out).trans h4) ((hb2.cell (p := ⟨y, 5, none⟩) HL.out).trans h5))); have HB2 := Aside0.mk (And.intro (below_step HB1.out.drew hb2) hS); clear hb2)
            | (go_at_call 119; refine (tbefore_calls e s _).mono ?_; rintro r w3 ⟨rfl, hb3⟩; have HB3 := Aside0.mk (below_step HB2.out.1 hb3); have hS3 := And.intro ((hb3.cell (p := ⟨y, 2, none⟩) (by have := HB2.out.1.size; have := HB1.out.size; have := HL0.out; show y < _; omega)).trans HB2.out.2.1) (And.intro ((hb3.cell (p := ⟨y, 3, none⟩) (by have := HB2.out.1.size; have := HL0.out; show y < _; omega)).trans HB2.out.2.2.1) (And.intro ((hb3.cell (p := ⟨y, 4, none⟩) (by have := HB2.out.1.size; have := HL0.out; show y < _; omega)).trans HB2.out.2.2.2.1) ((hb3.cell (p := ⟨y, 5, none⟩) (by have := HB2.out.1.size; have := HL0.out; show y < _; omega)).trans HB2.out.2.2.2.2))); clear hb3))
        | fail
        all_goals
          go_wp2_with fail
          go_meet
          exact ⟨by rw [decide_eq_false HE0.out]; rfl, HB3.out⟩
    case rest =>
      obtain ⟨rfl, hbc⟩ := hcut
      have HBC := Aside0.mk hbc
      clear hbc h2 h3 h4 h5
      by_cases hen : e ≠ 0 ∧ e < s
      · have HR := Aside0.mk (show alB s e la lb = false by simp [alB, hen.1, hen.2])
        rw [decide_eq_false hen.1, decide_eq_true hen.2]
        clear hen
        go_wp2_with fail
        refine (new_err _ _).mono ?_
        rintro r w2 ⟨tt, xx, rfl, hb2⟩
        have HB2 := Aside0.mk (below_step HBC.out hb2)
        clear hb2
        go_wp2
        go_ret
        exact ⟨⟨_, rfl, .inr ⟨HR.out, _, _, rfl⟩⟩, HB2.out⟩
      · have hce : (!decide (e = 0) && decide (e < s)) = false := by
          by_cases he : e = 0
          · simp [he]
          · have : ¬ e < s := fun h => hen ⟨he, h⟩
            simp [this]
        rw [hce]
        have HEN := Aside0.mk (show alB s e la lb = (valB la && !decide (la.length = 0) && valB lb) by
          have : (decide (e = 0) || !decide (e < s)) = true := by
            cases h1 : decide (e = 0) <;> cases h2 : decide (e < s) <;> simp_all
          simp only [alB, decide_eq_false HS0.out, this]; rfl)
        clear hen hce
        obtain ⟨hl, h0, h1, _, _, _, _⟩ := HA.out.next HBC.out
        have HL1 := Aside0.mk hl
        have HH := Aside0.mk (And.intro h0 h1)
        clear hl h1
        go_wp2_with fail
        refine (lvalid_calls b1 na la _ (HM.out.1.next HBC.out) HSA.out.1 (HT.out.next HBC.out)).mono ?_
        rintro r w2 ⟨⟨v2, rfl, hv2⟩, hb2⟩
        have HB2 := Aside0.mk (below_step HBC.out hb2)
        clear hb2 h0
        rcases hv2 with ⟨hva, rfl⟩ | ⟨hva, b3, s3, rfl, hc3, hs3, hl3⟩
        · have HVA := Aside0.mk hva
          clear hva
          obtain ⟨hl, h0, h1, _, _, _, _⟩ := HA.out.next HB2.out
          have HM2 := Aside0.mk (HM.out.1.next HB2.out)
          clear hl
          by_cases hz : la.length = 0
          · have c0 : ((la.length : Int) == 0) = true := by simp [hz]
            have HR := Aside0.mk (show alB s e la lb = false by rw [HEN.out, decide_eq_true hz]; simp)
            clear hz
            go_wp2_with (at_len; refine wpList_len_label _ rfl _ 75 rfl Tryz.underlying75 b1 na la rfl HM2.out ?_)
            refine (new_err _ _).mono ?_
            rintro r w3 ⟨tt, xx, rfl, hb3⟩
            have HB3 := Aside0.mk (below_step HB2.out hb3)
            clear hb3
            go_wp2
            go_ret
            exact ⟨⟨_, rfl, .inr ⟨HR.out, _, _, rfl⟩⟩, HB3.out⟩
          · have c0 : ((la.length : Int) == 0) = false := beq_eq_false_iff_ne.2 (by omega)
            have HZ := Aside0.mk (show alB s e la lb = valB lb by rw [HEN.out, decide_eq_false hz, HVA.out]; rfl)
            clear hz
            go_wp2_with (at_len; refine wpList_len_label _ rfl _ 75 rfl Tryz.underlying75 b1 na la rfl HM2.out ?_)
            refine (lvalid_calls b2 nb lb _ (HM.out.2.next HB2.out) HSA.out.2 (HT.out.next HB2.out)).mono ?_
            rintro r w3 ⟨⟨v3, rfl, hv3⟩, hb3⟩
            have HB3 := Aside0.mk (below_step HB2.out hb3)
            clear hb3 h0 h1
            rcases hv3 with ⟨hvb, rfl⟩ | ⟨hvb, b4, s4, rfl, hc4, hs4, hl4⟩
            · have HR := Aside0.mk (show alB s e la lb = true by rw [HZ.out, hvb])
              clear hvb
              go_wp2_with fail
              go_ret
              exact ⟨⟨_, rfl, .inl ⟨HR.out, rfl⟩⟩, HB3.out⟩
            · have HR := Aside0.mk (show alB s e la lb = false by rw [HZ.out, hvb])
              clear hvb
              go_wp2_with fail
              refine (eerr_calls b4 _ _ hc4).mono ?_
              rintro r w5 ⟨rfl, hb5⟩
              have HB5 := Aside0.mk (below_step HB3.out hb5)
              clear hb5
              go_wp2_with fail
              refine (new_err _ _).mono ?_
              rintro r w6 ⟨tt, xx, rfl, hb6⟩
              have HB6 := Aside0.mk (below_step HB5.out hb6)
              clear hb6
              go_wp2
              go_ret
              exact ⟨⟨_, rfl, .inr ⟨HR.out, _, _, rfl⟩⟩, HB6.out⟩
        · have HR := Aside0.mk (show alB s e la lb = false by rw [HEN.out, hva]; rfl)
          clear hva
          go_wp2_with fail
          refine (eerr_calls b3 _ _ hc3).mono ?_
          rintro r w5 ⟨rfl, hb5⟩
          have HB5 := Aside0.mk (below_step HB2.out hb5)
          clear hb5
          go_wp2_with fail
          refine (new_err _ _).mono ?_
          rintro r w6 ⟨tt, xx, rfl, hb6⟩
          have HB6 := Aside0.mk (below_step HB5.out hb6)
          clear hb6
          go_wp2
          go_ret
          exact ⟨⟨_, rfl, .inr ⟨HR.out, _, _, rfl⟩⟩, HB6.out⟩
end Go.Proofs.YtobbfenkdnaanaaGreatDoor
