/- Numbers in memory; whether one is among them; sets of fingerprints are compared, and what they have in common: by contract. -/
import Derived.Test.YtobbfenkdnaanaaGreatDoorFpA
import Derived.LoopTactic
import Derived.Deep.DeepCutAuto
set_option linter.unusedVariables false
set_option linter.unusedSimpArgs false
namespace Go.Proofs.YtobbfenkdnaanaaGreatDoor
open Go.RowKit Go.Maps Go.WideMaps

/-- A slice of numbers in memory. -/
def Nums (w : World) (a : Option Addr) (l : List Int) : Prop := l = [] ∨ ∃ b off, a = some ⟨b, off, none⟩ ∧ b < w.heap.size ∧ ∀ i (hi : i < l.length), w.cell? ⟨b, off + i, none⟩ = some (.int .u64 (l[i]'hi))
theorem Nums.next {w w' : World} {a : Option Addr} {l : List Int} (h : Nums w a l) (hb : Below w.heap.size w w') : Nums w' a l := by
  rcases h with h | ⟨b, off, ha, hlt, hc⟩
  · exact .inl h
  · exact .inr ⟨b, off, ha, Nat.lt_of_lt_of_le hlt hb.size, fun i hi => (hb.cell (p := ⟨b, off + i, none⟩) hlt).trans (hc i hi)⟩

theorem has_calls (a : Option Addr) (cap : Nat) (l : List Int) (x : Int) (w : World) (hl : Nums w a l) (hm : l.length ≤ 1000000) :
    Calls Tryz.prog 22 #[.slice a l.length cap, .int .u64 x] w fun e w' => e = .returned (.bool (decide (x ∈ l))) ∧ w' = w := by
  have HL := Aside0.mk hl
  clear hl
  go_enter Tryz.func22, Tryz.ntmps22
  go_wp2
  go_loop [5] (fun v => ∃ i : Nat, v = .int .i64 i ∧ i ≤ l.length ∧ Aside0 (x ∉ l.take i)) (fun v => l.length + 1 - (intOf v).toNat)
  case atStart => exact ⟨0, rfl, by omega, ⟨by simp⟩⟩
  case round =>
    obtain ⟨i, rfl, hi, HN⟩ := hrel
    by_cases hlt : i < l.length
    · rcases HL.out with h | ⟨b, off, ha, hblt, hc⟩
      · rw [h] at hlt; simp at hlt
      subst ha
      have c0 := hc i hlt
      obtain ⟨y, hy⟩ : ∃ y, l[i]'hlt = y := ⟨_, rfl⟩
      rw [hy] at c0
      have HY := Aside0.mk hy
      clear hc hy hblt
      by_cases hxy : y = x
      · have q : (y == x) = true := by simp [hxy]
        have HX := Aside0.mk (show x ∈ l by rw [← hxy, ← HY.out]; exact List.getElem_mem hlt)
        clear hxy
        go_wp2
        go_ret
        exact ⟨by rw [decide_eq_true HX.out]; rfl, rfl⟩
      · have q : (y == x) = false := by simp [hxy]
        have HX := Aside0.mk hxy
        clear hxy
        go_wp2
        go_round
        case rel =>
          refine ⟨i + 1, by go_num, by omega, ⟨?_⟩⟩
          rw [List.take_succ_eq_append_getElem hlt, HY.out]
          intro hm
          rcases List.mem_append.1 hm with h | h
          · exact HN.out h
          · simp only [List.mem_singleton] at h
            exact HX.out h.symm
        case measure => simp [intOf]; omega
    · have HE := Aside0.mk (show x ∉ l by have h := HN.out; rwa [List.take_of_length_le (by omega)] at h)
      go_wp2
      go_ret
      exact ⟨by rw [decide_eq_false HE.out]; rfl, rfl⟩

/-- Two sets are the same. -/
def eqU (la lb : List Int) : Bool := decide (la.length = lb.length ∧ ∀ x ∈ la, x ∈ lb)

set_option maxHeartbeats 1000000 in
set_option maxRecDepth 100000 in
theorem equalU_calls (ba bb na nb : Nat) (la lb : List Int) (w : World) (ha : SetIs w ba na la) (hb : SetIs w bb nb lb) (hla : la.length ≤ 1000) (hlb : lb.length ≤ 1000) :
    Calls Tryz.prog 71 #[.map (some ba), .map (some bb)] w fun e w' => e = .returned (.bool (eqU la lb)) ∧ Below w.heap.size w w' := by
  have HA := Aside0.mk ha
  have HB := Aside0.mk hb
  clear ha hb
  by_cases hlen : la.length = lb.length
  · have c1 : ((la.length : Int) != (lb.length : Int)) = false := by rw [hlen]; simp
    have HLEN := Aside0.mk hlen
    clear hlen
    go_enter Tryz.func71, Tryz.ntmps71
    go_wp2_with (first | (at_len; refine wpList_len_num _ rfl _ rfl ba na la rfl HA.out ?_) | (at_len; refine wpList_len_num _ rfl _ rfl bb nb lb rfl HB.out ?_) | (at_range; refine wpList_range_num _ rfl _ rfl ba na la rfl HA.out ?_; intro w0 hrg0 hg0 hs0; have HRG := Aside0.mk hrg0; have HG0 := Aside0.mk (And.intro hg0 hs0); clear hrg0 hg0 hs0))
    go_frame
    have HB0 := Aside0.mk ((Below.refl w.heap.size w).grown HG0.out.1 (Nat.le_refl _) (fun k hk => by cases hk))
    go_loopg [5] la.length (fun g v5 w' => ∃ d : List Int, Aside0 (RangeU w' ba w.heap.size na la d g) ∧ Aside0 (∀ p ∈ d, p ∈ lb) ∧ Aside0 (Below w.heap.size w w'))
    case atStart => exact ⟨[], HRG, ⟨fun p hp => by cases hp⟩, HB0⟩
    case round =>
      obtain ⟨d, HR, HD, HBW⟩ := hrel
      go_wp2_with (at_next; refine wpList_next_num _ rfl _ rfl ba w.heap.size na la d gk rfl HR.out ?_ ?_)
      · intro hall
        have HF := Aside0.mk (show eqU la lb = true from decide_eq_true ⟨HLEN.out, fun x hx => HD.out x ((hall x).2 hx)⟩)
        clear hall
        go_wp2
        go_ret
        exact ⟨by rw [HF.out]; rfl, HBW.out⟩
      · intro x w1 cnt1 hlx hdx hxl hrg1 hlt hg1 hs1 hen
        have HBX := Aside0.mk (HBW.out.grown hg1 (by have := HBW.out.size; omega) (fun k hk => by cases hk; exact Nat.le_refl _))
        have HMB := Aside0.mk (HB.out.next HBX.out)
        have HX := Aside0.mk (And.intro hlx (And.intro hdx hxl))
        have HRG1 := Aside0.mk hrg1
        clear hlx hdx hxl hrg1 hg1 hs1
        by_cases hxb : x ∈ lb
        · have HXB := Aside0.mk hxb
          clear hxb
          go_wp2_with (at_lookup; refine wpList_look_num _ rfl _ _ rfl bb nb lb rfl HMB.out x rfl HX.out.2.2 ?_; rw [decide_eq_true HXB.out])
          go_roundg cnt1
          case measure => exact hlt
          case rel => exact ⟨d ++ [x], ⟨HRG1.out.alloc _⟩, ⟨fun p hp => by
            rcases List.mem_append.1 hp with hp | hp
            · exact HD.out p hp
            · simp only [List.mem_singleton] at hp
              subst hp
              exact HXB.out⟩, ⟨below_alloc HBX.out _⟩⟩
        · have HXB := Aside0.mk hxb
          have HF := Aside0.mk (show eqU la lb = false from decide_eq_false fun h => HXB.out (h.2 x HX.out.1))
          clear hxb
          go_wp2_with (at_lookup; refine wpList_look_num _ rfl _ _ rfl bb nb lb rfl HMB.out x rfl HX.out.2.2 ?_; rw [decide_eq_false HXB.out])
          go_ret
          exact ⟨by rw [HF.out]; rfl, below_alloc HBX.out _⟩
  · have c1 : ((la.length : Int) != (lb.length : Int)) = true := by simp; omega
    have HF := Aside0.mk (show eqU la lb = false from decide_eq_false fun h => hlen h.1)
    clear hlen
    go_enter Tryz.func71, Tryz.ntmps71
    go_wp2_with (first | (at_len; refine wpList_len_num _ rfl _ rfl ba na la rfl HA.out ?_) | (at_len; refine wpList_len_num _ rfl _ rfl bb nb lb rfl HB.out ?_))
    go_ret
    exact ⟨by rw [HF.out]; rfl, Below.refl _ _⟩

/-- d is what the two sets have in common. -/
def Inter (la lb d : List Int) : Prop := d.Nodup ∧ ∀ x, x ∈ d ↔ x ∈ la ∧ x ∈ lb

set_option maxHeartbeats 2000000 in
set_option maxRecDepth 100000 in
theorem interU_calls (ba bb na nb : Nat) (la lb : List Int) (w : World) (ha : SetIs w ba na la) (hb : SetIs w bb nb lb) (hla : la.length ≤ 1000) (hlb : lb.length ≤ 1000) :
    Calls Tryz.prog 72 #[.map (some ba), .map (some bb)] w fun e w' => ∃ b n d, e = .returned (.map (some b)) ∧ w.heap.size ≤ b ∧ SetIs w' b n d ∧ n ≤ 1000 ∧ Inter la lb d ∧ d.length ≤ la.length + lb.length ∧ (la.length ≤ 20 → lb.length ≤ 20 → d.length ≤ 20) ∧ Below w.heap.size w w' := by
  have HA := Aside0.mk ha
  have HB := Aside0.mk hb
  clear ha hb
  have hmm := @run_makeMap Tryz.prog
  obtain ⟨wo, hwo⟩ : ∃ wo : World, wo = w := ⟨_, rfl⟩
  subst hwo
  have HSZ := Aside0.mk (show (wo.alloc (Obj.map #[] 0)).heap.size = wo.heap.size + 1 by simp)
  rcases Nat.eq_zero_or_pos la.length with h0 | h0
  · have HI := Aside0.mk (show Inter la lb [] from ⟨List.nodup_nil, fun x => by rw [List.eq_nil_of_length_eq_zero h0]; simp⟩)
    have c1 : ((la.length : Int) == 0) = true := by simp [List.eq_nil_of_length_eq_zero h0]
    clear h0
    go_enter Tryz.func72, Tryz.ntmps72
    go_wp2_with (first | (at_len; refine wpList_len_num _ rfl _ rfl ba na la rfl HA.out ?_) | (at_len; refine wpList_len_num _ rfl _ rfl bb nb lb rfl HB.out ?_))
    go_ret
    exact ⟨wo.heap.size, 0, [], rfl, Nat.le_refl _, SetIs.made wo, by omega, HI.out, by simp, by simp, below_alloc (Below.refl _ _) _⟩
  · rcases Nat.eq_zero_or_pos lb.length with h1 | h1
    · have HI := Aside0.mk (show Inter la lb [] from ⟨List.nodup_nil, fun x => by rw [List.eq_nil_of_length_eq_zero h1]; simp⟩)
      have c1 : ((la.length : Int) == 0) = false := by simp; intro h; rw [h] at h0; simp at h0
      have c2 : ((lb.length : Int) == 0) = true := by simp [List.eq_nil_of_length_eq_zero h1]
      clear h0 h1
      go_enter Tryz.func72, Tryz.ntmps72
      go_wp2_with (first | (at_len; refine wpList_len_num _ rfl _ rfl ba na la rfl HA.out ?_) | (at_len; refine wpList_len_num _ rfl _ rfl bb nb lb rfl HB.out ?_))
      go_ret
      exact ⟨wo.heap.size, 0, [], rfl, Nat.le_refl _, SetIs.made wo, by omega, HI.out, by simp, by simp, below_alloc (Below.refl _ _) _⟩
    · have c1 : ((la.length : Int) == 0) = false := by simp; intro h; rw [h] at h0; simp at h0
      have c2 : ((lb.length : Int) == 0) = false := by simp; intro h; rw [h] at h1; simp at h1
      by_cases hlt : lb.length < la.length
      · have hlt2 : (lb.length : Int) < (la.length : Int) := by omega
        clear h0 h1
        go_enter Tryz.func72, Tryz.ntmps72
        go_wp2_with (first | (at_len; refine wpList_len_num _ rfl _ rfl ba na la rfl HA.out ?_) | (at_len; refine wpList_len_num _ rfl _ rfl bb nb lb rfl HB.out ?_) | (at_range; refine wpList_range_num _ rfl _ rfl bb nb lb rfl (HB.out.alloc _) ?_; intro w0 hrg0 hg0 hs0; rw [HSZ.out] at hrg0 ⊢; have HRG := Aside0.mk hrg0; have HG0 := Aside0.mk (And.intro hg0 hs0); clear hrg0 hg0 hs0))
        (try go_frame)
        have HB0 := Aside0.mk ((below_alloc (Below.refl wo.heap.size wo) (Obj.map #[] 0)).grown HG0.out.1 (by simp) (fun k hk => by cases hk))
        have HM0 := Aside0.mk ((SetIs.made wo).kept HG0.out.1 (by simp))
        go_loopg [10] lb.length (fun g v10 w' => ∃ d e : List Int, Aside0 (RangeU w' bb (wo.heap.size + 1) nb lb d g) ∧ Aside0 (SetIs w' wo.heap.size d.length e) ∧ Aside0 (∀ x, x ∈ e ↔ x ∈ d ∧ x ∈ la) ∧ Aside0 (e.length ≤ d.length) ∧ Aside0 (Below wo.heap.size wo w'))
        case atStart => exact ⟨[], [], HRG, HM0, ⟨fun x => by simp⟩, ⟨by simp⟩, HB0⟩
        case round =>
          obtain ⟨d, e, HR, HM, HE, HL, HBW⟩ := hrel
          go_wp2_with (at_next; refine wpList_next_num _ rfl _ rfl bb (wo.heap.size + 1) nb lb d gk rfl HR.out ?_ ?_)
          · intro hall
            have HALL := Aside0.mk hall
            clear hall
            go_wp2
            go_ret
            have hE : ∀ x, x ∈ e ↔ x ∈ lb ∧ x ∈ la := fun x => by rw [HE.out x, HALL.out x]
            have hc := HR.out.count
            have hl := HL.out
            exact ⟨wo.heap.size, d.length, e, rfl, Nat.le_refl _, HM.out, by omega, ⟨HM.out.once, fun x => (hE x).trans (and_comm)⟩, by omega, fun _ _ => by omega, HBW.out⟩
          · intro x w1 cnt1 hlx hdx hxl hrg1 hlt1 hg1 hs1 hen
            have HBX := Aside0.mk (HBW.out.grown hg1 (by have := HBW.out.size; omega) (fun k hk => by cases hk; omega))
            have HM1 := Aside0.mk (HM.out.kept hg1 (by simp))
            have HMB := Aside0.mk (HA.out.next HBX.out)
            have hct := HR.out.count
            have HX := Aside0.mk (And.intro hlx (And.intro hdx hxl))
            have HRG1 := Aside0.mk hrg1
            have HCT := Aside0.mk (show d.length < maxLen by unfold maxLen; omega)
            clear hlx hdx hxl hrg1 hg1 hs1 hct
            by_cases hxb : x ∈ la
            · have HXB := Aside0.mk hxb
              clear hxb
              go_wp2_with (first | (at_lookup; refine wpList_look_num _ rfl _ _ rfl ba na la rfl HMB.out x rfl HX.out.2.2 ?_; rw [decide_eq_true HXB.out]) | (at_mapUpdate; refine wpList_store_num _ rfl _ _ _ rfl wo.heap.size d.length e rfl (HM1.out.alloc _) HCT.out x rfl rfl HX.out.2.2 ?_; intro w2 hm2 hg2; have HM2 := Aside0.mk hm2; have HG2 := Aside0.mk hg2; clear hm2 hg2))
              have HRG2 := Aside0.mk ((HRG1.out.alloc _).kept HG2.out (by have h1 := HB.out.lt; intro h; cases h; omega) (by simp))
              go_roundg cnt1
              case measure => exact hlt1
              case rel =>
                refine ⟨d ++ [x], insU e x, HRG2, ⟨by rw [List.length_append]; exact HM2.out⟩, ⟨fun y => ?_⟩, ⟨?_⟩, ⟨(below_alloc HBX.out _).grown HG2.out (by have := HBX.out.size; simp; omega) (fun k hk => by cases hk; exact Nat.le_refl _)⟩⟩
                · rw [insU_mem, HE.out y]
                  constructor
                  · rintro (⟨h1, h2⟩ | rfl)
                    · exact ⟨List.mem_append_left _ h1, h2⟩
                    · exact ⟨List.mem_append_right _ (List.mem_singleton_self _), HXB.out⟩
                  · rintro ⟨h1, h2⟩
                    rcases List.mem_append.1 h1 with h1 | h1
                    · exact .inl ⟨h1, h2⟩
                    · exact .inr (List.mem_singleton.1 h1)
                · have h1 := (insU_len e x).2
                  have h2 := HL.out
                  rw [List.length_append, List.length_singleton]
                  omega
            · have HXB := Aside0.mk hxb
              clear hxb
              go_wp2_with (at_lookup; refine wpList_look_num _ rfl _ _ rfl ba na la rfl HMB.out x rfl HX.out.2.2 ?_; rw [decide_eq_false HXB.out])
              go_roundg cnt1
              case measure => exact hlt1
              case rel =>
                refine ⟨d ++ [x], e, ⟨HRG1.out.alloc _⟩, ⟨(HM1.out.alloc _).mono (by rw [List.length_append]; omega)⟩, ⟨fun y => ?_⟩, ⟨by have := HL.out; rw [List.length_append]; omega⟩, ⟨below_alloc HBX.out _⟩⟩
                rw [HE.out y]
                constructor
                · rintro ⟨h1, h2⟩
                  exact ⟨List.mem_append_left _ h1, h2⟩
                · rintro ⟨h1, h2⟩
                  rcases List.mem_append.1 h1 with h1 | h1
                  · exact ⟨h1, h2⟩
                  · rw [List.mem_singleton.1 h1] at h2
                    exact absurd h2 HXB.out
      · have hlt2 : ¬ (lb.length : Int) < (la.length : Int) := by omega
        clear h0 h1
        go_enter Tryz.func72, Tryz.ntmps72
        go_wp2_with (first | (at_len; refine wpList_len_num _ rfl _ rfl ba na la rfl HA.out ?_) | (at_len; refine wpList_len_num _ rfl _ rfl bb nb lb rfl HB.out ?_) | (at_range; refine wpList_range_num _ rfl _ rfl ba na la rfl (HA.out.alloc _) ?_; intro w0 hrg0 hg0 hs0; rw [HSZ.out] at hrg0 ⊢; have HRG := Aside0.mk hrg0; have HG0 := Aside0.mk (And.intro hg0 hs0); clear hrg0 hg0 hs0))
        (try go_frame)
        have HB0 := Aside0.mk ((below_alloc (Below.refl wo.heap.size wo) (Obj.map #[] 0)).grown HG0.out.1 (by simp) (fun k hk => by cases hk))
        have HM0 := Aside0.mk ((SetIs.made wo).kept HG0.out.1 (by simp))
        go_loopg [10] la.length (fun g v10 w' => ∃ d e : List Int, Aside0 (RangeU w' ba (wo.heap.size + 1) na la d g) ∧ Aside0 (SetIs w' wo.heap.size d.length e) ∧ Aside0 (∀ x, x ∈ e ↔ x ∈ d ∧ x ∈ lb) ∧ Aside0 (e.length ≤ d.length) ∧ Aside0 (Below wo.heap.size wo w'))
        case atStart => exact ⟨[], [], HRG, HM0, ⟨fun x => by simp⟩, ⟨by simp⟩, HB0⟩
        case round =>
          obtain ⟨d, e, HR, HM, HE, HL, HBW⟩ := hrel
          go_wp2_with (at_next; refine wpList_next_num _ rfl _ rfl ba (wo.heap.size + 1) na la d gk rfl HR.out ?_ ?_)
          · intro hall
            have HALL := Aside0.mk hall
            clear hall
            go_wp2
            go_ret
            have hE : ∀ x, x ∈ e ↔ x ∈ la ∧ x ∈ lb := fun x => by rw [HE.out x, HALL.out x]
            have hc := HR.out.count
            have hl := HL.out
            exact ⟨wo.heap.size, d.length, e, rfl, Nat.le_refl _, HM.out, by omega, ⟨HM.out.once, fun x => hE x⟩, by omega, fun _ _ => by omega, HBW.out⟩
          · intro x w1 cnt1 hlx hdx hxl hrg1 hlt1 hg1 hs1 hen
            have HBX := Aside0.mk (HBW.out.grown hg1 (by have := HBW.out.size; omega) (fun k hk => by cases hk; omega))
            have HM1 := Aside0.mk (HM.out.kept hg1 (by simp))
            have HMB := Aside0.mk (HB.out.next HBX.out)
            have hct := HR.out.count
            have HX := Aside0.mk (And.intro hlx (And.intro hdx hxl))
            have HRG1 := Aside0.mk hrg1
            have HCT := Aside0.mk (show d.length < maxLen by unfold maxLen; omega)
            clear hlx hdx hxl hrg1 hg1 hs1 hct
            by_cases hxb : x ∈ lb
            · have HXB := Aside0.mk hxb
              clear hxb
              go_wp2_with (first | (at_lookup; refine wpList_look_num _ rfl _ _ rfl bb nb lb rfl HMB.out x rfl HX.out.2.2 ?_; rw [decide_eq_true HXB.out]) | (at_mapUpdate; refine wpList_store_num _ rfl _ _ _ rfl wo.heap.size d.length e rfl (HM1.out.alloc _) HCT.out x rfl rfl HX.out.2.2 ?_; intro w2 hm2 hg2; have HM2 := Aside0.mk hm2; have HG2 := Aside0.mk hg2; clear hm2 hg2))
              have HRG2 := Aside0.mk ((HRG1.out.alloc _).kept HG2.out (by have h1 := HA.out.lt; intro h; cases h; omega) (by simp))
              go_roundg cnt1
              case measure => exact hlt1
              case rel =>
                refine ⟨d ++ [x], insU e x, HRG2, ⟨by rw [List.length_append]; exact HM2.out⟩, ⟨fun y => ?_⟩, ⟨?_⟩, ⟨(below_alloc HBX.out _).grown HG2.out (by have := HBX.out.size; simp; omega) (fun k hk => by cases hk; exact Nat.le_refl _)⟩⟩
                · rw [insU_mem, HE.out y]
                  constructor
                  · rintro (⟨h1, h2⟩ | rfl)
                    · exact ⟨List.mem_append_left _ h1, h2⟩
                    · exact ⟨List.mem_append_right _ (List.mem_singleton_self _), HXB.out⟩
                  · rintro ⟨h1, h2⟩
                    rcases List.mem_append.1 h1 with h1 | h1
                    · exact .inl ⟨h1, h2⟩
                    · exact .inr (List.mem_singleton.1 h1)
                · have h1 := (insU_len e x).2
                  have h2 := HL.out
                  rw [List.length_append, List.length_singleton]
                  omega
            · have HXB := Aside0.mk hxb
              clear hxb
              go_wp2_with (at_lookup; refine wpList_look_num _ rfl _ _ rfl bb nb lb rfl HMB.out x rfl HX.out.2.2 ?_; rw [decide_eq_false HXB.out])
              go_roundg cnt1
              case measure => exact hlt1
              case rel =>
                refine ⟨d ++ [x], e, ⟨HRG1.out.alloc _⟩, ⟨(HM1.out.alloc _).mono (by rw [List.length_append]; omega)⟩, ⟨fun y => ?_⟩, ⟨by have := HL.out; rw [List.length_append]; omega⟩, ⟨below_alloc HBX.out _⟩⟩
                rw [HE.out y]
                constructor
                · rintro ⟨h1, h2⟩
                  exact ⟨List.mem_append_left _ h1, h2⟩
                · rintro ⟨h1, h2⟩
                  rcases List.mem_append.1 h1 with h1 | h1
                  · exact ⟨h1, h2⟩
                  · rw [List.mem_singleton.1 h1] at h2
                    exact absurd h2 HXB.out
end Go.Proofs.YtobbfenkdnaanaaGreatDoor
