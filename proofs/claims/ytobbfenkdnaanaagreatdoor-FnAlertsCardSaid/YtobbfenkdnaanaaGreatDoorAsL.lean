/- The law FnAlerts, walked. -/
import Derived.Test.YtobbfenkdnaanaaGreatDoorAsI
import Derived.Test.YtobbfenkdnaanaaGreatDoorAsC
import Derived.Test.YtobbfenkdnaanaaGreatDoorAsJ
import Derived.Test.YtobbfenkdnaanaaGreatDoorDurF
import Derived.Deep.DeepCutAuto
import Derived.Deep.QuietTactic
import Derived.Deep.RegionHeld3
set_option linter.unusedVariables false
set_option linter.unusedSimpArgs false
namespace Go.Proofs.YtobbfenkdnaanaaGreatDoor
open Go.RowKit Go.Maps Go.WideMaps Go.Sort

theorem fits_len4 {l : LL} (h : fitsB l = true) : l.length ≤ 2147483647 := by
  unfold fitsB at h
  rw [Bool.and_eq_true] at h
  exact of_decide_eq_true h.1
theorem ord_ten4 {l : LL} (h : ordB l = true) : l.length ≤ 10 := by
  unfold ordB fewB at h
  rw [Bool.and_eq_true, Bool.and_eq_true] at h
  exact of_decide_eq_true h.1.2
/-- What makes the law call an alert firing. -/
def fireL (xs : List AlD) (t : Int) : Bool := xs.any fun x => decide (x.e = 0) || decide (t < x.e)
theorem fireL_snoc (l : List AlD) (x : AlD) (t : Int) : fireL (l ++ [x]) t = (fireL l t || (decide (x.e = 0) || decide (t < x.e))) := by
  unfold fireL
  rw [List.any_append]
  simp
def AlikeX (xs : List AlD) : Prop := ∀ x ∈ xs, ∀ y ∈ xs, x.s = y.s ∧ x.e = y.e
theorem alike_step {xs : List AlD} {i : Nat} (hlt : i < xs.length) (h : AlikeX (xs.take i)) (hs : (xs[i]'hlt).s = (xs[0]'(by omega)).s ∧ (xs[i]'hlt).e = (xs[0]'(by omega)).e) : AlikeX (xs.take (i + 1)) := by
  have key : ∀ y ∈ xs.take (i + 1), y.s = (xs[0]'(by omega)).s ∧ y.e = (xs[0]'(by omega)).e := fun y hy => by
    rw [List.take_succ_eq_append_getElem hlt] at hy
    rcases List.mem_append.1 hy with hy | hy
    · have hi : 0 < i := by
        rcases Nat.eq_zero_or_pos i with h0 | h0
        · subst h0; simp at hy
        · exact h0
      exact h y hy _ (List.mem_take_iff_getElem.2 ⟨0, by omega, rfl⟩)
    · rw [List.mem_singleton] at hy
      rw [hy]; exact hs
  intro x hx y hy
  obtain ⟨h1, h2⟩ := key x hx
  obtain ⟨h3, h4⟩ := key y hy
  exact ⟨h1.trans h3.symm, h2.trans h4.symm⟩
/-- What the law has let in. -/
def GoodL (x : AlD) : Prop := ordB x.la = true ∧ x.lb = [] ∧ 1 ≤ x.s ∧ x.s ≤ 8589934592 ∧ 0 ≤ x.e ∧ x.e ≤ 8589934592

theorem key_at {ys : List AlD} {P : List (Nat × AlD)} (hk : ys.map keyD = P.map (fun p => keyD p.2)) {j : Nat} (hj : j < ys.length) (hp : j < P.length) : keyD (ys[j]'hj) = keyD (P[j]'hp).2 := by
  have h1 : (ys.map keyD)[j]? = (P.map (fun p => keyD p.2))[j]? := by rw [hk]
  rw [List.getElem?_map, List.getElem?_map, List.getElem?_eq_getElem hj, List.getElem?_eq_getElem hp] at h1
  exact Option.some.inj h1
theorem ys_in {ys : List AlD} {P : List (Nat × AlD)} {xs : List AlD} (hk : ys.map keyD = P.map (fun p => keyD p.2)) (hpm : (P.map Prod.snd).Perm xs) {j : Nat} (hj : j < ys.length) : ∃ x ∈ xs, keyD x = keyD (ys[j]'hj) := by
  have hl : ys.length = P.length := by have h1 := congrArg List.length hk; simpa using h1
  exact ⟨(P[j]'(by omega)).2, hpm.mem_iff.1 (List.mem_map.2 ⟨_, List.getElem_mem (by omega), rfl⟩), (key_at hk hj (by omega)).symm⟩
theorem ys_order {ys : List AlD} {P : List (Nat × AlD)} {xs : List AlD} (hk : ys.map keyD = P.map (fun p => keyD p.2)) (hpm : (P.map Prod.snd).Perm xs) (hup : Alike P → UpTo P P.length P.length) (hal : AlikeX xs) (hg : ∀ x ∈ xs, GoodL x) {j : Nat} (hj : j + 1 < ys.length) :
    decide (fnvL fnv0 (flatL (ys[j + 1]'hj).la) < fnvL fnv0 (flatL (ys[j]'(by omega)).la)) = false := by
  have hl : ys.length = P.length := by have h1 := congrArg List.length hk; simpa using h1
  have hmem : ∀ p ∈ P, p.2 ∈ xs := fun p hp => hpm.mem_iff.1 (List.mem_map.2 ⟨p, hp, rfl⟩)
  have h := hup (fun p hp q hq => hal _ (hmem p hp) _ (hmem q hq)) j (j + 1) (by omega) (by omega) (by omega)
  unfold fAt at h
  rw [List.getElem?_eq_getElem (show j < P.length by omega), List.getElem?_eq_getElem (show j + 1 < P.length by omega)] at h
  have k0 := congrArg Prod.fst (key_at hk (show j < ys.length by omega) (show j < P.length by omega))
  have k1 := congrArg Prod.fst (key_at hk hj (show j + 1 < P.length by omega))
  simp only [keyD] at k0 k1
  have g0 := hg _ (hmem _ (List.getElem_mem (show j < P.length by omega)))
  have g1 := hg _ (hmem _ (List.getElem_mem (show j + 1 < P.length by omega)))
  rw [k0, k1, ← fing_eq (ord_of g0.1).2, ← fing_eq (ord_of g1.1).2]
  exact decide_eq_false (by simpa using h)

theorem fire_eq {xs : List AlD} {t : Int} (ht : 1 ≤ t) : ∀ (hg : ∀ x ∈ xs, GoodL x), fireX xs (t + 62135596800) = fireL xs t := by
  intro hg
  induction xs with
  | nil => rfl
  | cons x tl ih =>
    have h1 := ih (fun y hy => hg y (List.mem_cons_of_mem _ hy))
    have h2 := hg x (List.mem_cons_self ..)
    unfold fireX fireL at h1 ⊢
    rw [List.any_cons, List.any_cons, h1, res_eq x.e t h2.2.2.2.2.1 ht]
    congr 1
    by_cases he : x.e = 0
    · simp [he]
    · by_cases hl : x.e ≤ t
      · simp [he, hl]
      · simp [he, hl]; omega

set_option maxHeartbeats 4000000 in
set_option maxRecDepth 100000 in
theorem alertsLaw_calls (a : Option Addr) (cap : Nat) (xs : List AlD) (t : Int) (w : World) (hx : AlsIn w a xs) (hlen : xs.length ≤ 9223372036854775807) (hm : ∀ x ∈ xs, x.la.length ≤ 9223372036854775807 ∧ x.lb.length ≤ 9223372036854775807) (hg : Glob w) :
    Calls Tryz.prog 7 #[.slice a xs.length cap, .int .i64 t] w fun e w' => e = .returned (.bool true) ∧ Below w.heap.size w w' := by
  have HX := Aside0.mk hx
  have HM := Aside0.mk hm
  have HG := Aside0.mk hg
  clear hx hm hg
  by_cases h8 : xs.length ≤ 8
  · have d0 : decide (8 < (xs.length : Int)) = false := decide_eq_false (by omega)
    by_cases ht1 : t < 1
    · have d1 : decide (t < 1) = true := decide_eq_true ht1
      go_enter Tryz.func7, Tryz.ntmps7
      go_wp2_with fail
      refine (fits15_calls a cap xs _ HX.out hlen HM.out).mono ?_
      rintro e w1 ⟨⟨b, rfl, hb⟩, hb1⟩
      have HB1 := Aside0.mk hb1
      clear hb1 hb
      cases b with
      | false =>
        go_wp2
        go_ret
        exact ⟨rfl, HB1.out⟩
      | true =>
        go_wp2_with fail
        refine (awake_calls _ (HG.out.next HB1.out)).mono ?_
        rintro e w6 ⟨rfl, hb6⟩
        have HB6 := Aside0.mk (below_step HB1.out hb6); clear hb6
        go_wp2
        go_ret
        exact ⟨rfl, HB6.out⟩
    · by_cases ht2 : 8589934592 < t
      · have d1 : decide (t < 1) = false := decide_eq_false ht1
        have d2 : decide (8589934592 < t) = true := decide_eq_true ht2
        go_enter Tryz.func7, Tryz.ntmps7
        go_wp2_with fail
        refine (fits15_calls a cap xs _ HX.out hlen HM.out).mono ?_
        rintro e w1 ⟨⟨b, rfl, hb⟩, hb1⟩
        have HB1 := Aside0.mk hb1
        clear hb1 hb
        cases b with
        | false =>
          go_wp2
          go_ret
          exact ⟨rfl, HB1.out⟩
        | true =>
          go_wp2_with fail
          refine (awake_calls _ (HG.out.next HB1.out)).mono ?_
          rintro e w6 ⟨rfl, hb6⟩
          have HB6 := Aside0.mk (below_step HB1.out hb6); clear hb6
          go_wp2
          go_ret
          exact ⟨rfl, HB6.out⟩
      · have d1 : decide (t < 1) = false := decide_eq_false ht1
        have d2 : decide (8589934592 < t) = false := decide_eq_false ht2
        go_enter Tryz.func7, Tryz.ntmps7
        go_wp2_with fail
        refine (fits15_calls a cap xs _ HX.out hlen HM.out).mono ?_
        rintro e w1 ⟨⟨b, rfl, hb⟩, hb1⟩
        have HB1 := Aside0.mk hb1
        have HFT := Aside0.mk hb
        clear hb1 hb
        cases b with
        | false =>
          go_wp2
          go_ret
          exact ⟨rfl, HB1.out⟩
        | true =>
          have HFI := Aside0.mk (HFT.out rfl).2
          clear HFT
          go_wp2_with fail
          go_loopg [5, 6, 7] (xs.length + 1) (fun g v5 v6 v7 w' => ∃ (i : Nat) (bf ba : Bool), v5 = .bool bf ∧ v6 = .bool ba ∧ v7 = .int .i64 (i : Int) ∧ i + g = xs.length + 1 ∧ i ≤ xs.length ∧ Aside0 (bf = fireL (xs.take i) t) ∧ Aside0 (ba = true → AlikeX (xs.take i)) ∧ Aside0 (∀ x ∈ xs.take i, GoodL x) ∧ Aside0 (Below w.heap.size w w'))
          case atStart => exact ⟨0, false, true, rfl, rfl, rfl, by omega, by omega, ⟨rfl⟩, ⟨fun _ x hx => by cases hx⟩, ⟨fun x hx => by cases hx⟩, HB1⟩
          case round =>
            obtain ⟨i, bf, ba, rfl, rfl, rfl, hig, hile, HFIRE, HALI, HGOOD, HBW⟩ := hrel
            by_cases hlt : i < xs.length
            · obtain ⟨g1, rfl⟩ : ∃ m, gk = m + 1 := ⟨gk - 1, by omega⟩
              rcases HX.out.next HBW.out with h | ⟨b, off, ha, hblt, hc⟩
              · rw [h] at hlt; simp at hlt
              subst ha
              obtain ⟨c0, c1, c2, c3, hla, hlb⟩ := hc i hlt
              obtain ⟨e0, e1, e2, e3, _, _⟩ := hc 0 (by omega)
              obtain ⟨x, hxx⟩ : ∃ x, xs[i]'hlt = x := ⟨_, rfl⟩
              obtain ⟨x0, hx0⟩ : ∃ x, xs[0]'(by omega) = x := ⟨_, rfl⟩
              rw [hxx] at c0 c1 c2 c3 hla hlb
              rw [hx0] at e0 e1 e2 e3
              rw [Nat.zero_mul, Nat.add_zero] at e0 e1 e2 e3
              have HXX := Aside0.mk (And.intro hxx hx0)
              have HBL := Aside0.mk hblt
              have hlt0 : (0 : Int) < (xs.length : Int) := by omega
              have hlt1 : 0 < xs.length := by omega
              have hlt2 : decide (0 < xs.length) = true := decide_eq_true hlt1
              have HBX := Aside0.mk (below_alloc (Below.refl wr.heap.size wr) (Obj.cells #[Value.slice x.a x.la.length x.cap, Value.slice x.a' x.lb.length x.cap', Value.int IntKind.i64 x.s, Value.int IntKind.i64 x.e] 31))
              have HCX := Aside0.mk (show ∀ W', Below (wr.alloc (Obj.cells #[Value.slice x.a x.la.length x.cap, Value.slice x.a' x.lb.length x.cap', Value.int IntKind.i64 x.s, Value.int IntKind.i64 x.e] 31)).heap.size (wr.alloc (Obj.cells #[Value.slice x.a x.la.length x.cap, Value.slice x.a' x.lb.length x.cap', Value.int IntKind.i64 x.s, Value.int IntKind.i64 x.e] 31)) W' → W'.cell? ⟨wr.heap.size, 0, none⟩ = some (.slice x.a x.la.length x.cap) ∧ W'.cell? ⟨wr.heap.size, 1, none⟩ = some (.slice x.a' x.lb.length x.cap') ∧ W'.cell? ⟨wr.heap.size, 2, none⟩ = some (.int .i64 x.s) ∧ W'.cell? ⟨wr.heap.size, 3, none⟩ = some (.int .i64 x.e) from fun w' hb =>
                ⟨(hb.cell (p := ⟨wr.heap.size, 0, none⟩) (by simp)).trans (by simp [go_sem]), (hb.cell (p := ⟨wr.heap.size, 1, none⟩) (by simp)).trans (by simp [go_sem]), (hb.cell (p := ⟨wr.heap.size, 2, none⟩) (by simp)).trans (by simp [go_sem]), (hb.cell (p := ⟨wr.heap.size, 3, none⟩) (by simp)).trans (by simp [go_sem])⟩)
              have HLAB := Aside0.mk (And.intro (hla.next HBX.out) (hlb.next HBX.out))
              have f2 := (HBX.out.cell (p := ⟨b, off + 2, none⟩) hblt).trans e2
              have f3 := (HBX.out.cell (p := ⟨b, off + 3, none⟩) hblt).trans e3
              clear hc hla hlb hxx hx0
              go_wp2_with fail
              clear c0 c1 c2 c3 e0 e1 e2 e3
              obtain ⟨n0, n1, n2, n3⟩ := HCX.out _ (Below.refl _ _)
              obtain ⟨WB, hWB⟩ : ∃ WB : World, WB = (wr.alloc (Obj.cells #[Value.slice x.a x.la.length x.cap, Value.slice x.a' x.lb.length x.cap', Value.int IntKind.i64 x.s, Value.int IntKind.i64 x.e] 31)) := ⟨_, rfl⟩
              rw [← hWB] at f2 f3 n0 n1 n2 n3 HLAB HCX HBX ⊢
              have HNWB := Aside0.mk (show wr.heap.size < WB.heap.size by rw [hWB]; simp)
              clear hWB
              go_cut [6] (fun v6 w' => ∃ ba2 : Bool, v6 = .bool ba2 ∧ (ba2 = true → ba = true ∧ x.s = x0.s ∧ x.e = x0.e) ∧ ∃ q, w' = WB.drewN q)
              case first =>
                cases ba with
                | false =>
                  go_quiet (fail)
                  go_wp2_with fail
                  go_meet
                  exact ⟨false, rfl, (fun h => by cases h), nq, rfl⟩
                | true =>
                  by_cases hs : x.s = x0.s
                  · by_cases he : x.e = x0.e
                    · have q1 : (x.s == x0.s) = true := by simp [hs]
                      have q2 : (x.e == x0.e) = true := by simp [he]
                      have HSE := Aside0.mk (And.intro hs he)
                      clear hs he
                      go_quiet (fail)
                      go_wp2_with fail
                      go_meet
                      exact ⟨true, rfl, (fun _ => ⟨by first | exact rfl | trivial, HSE.out.1, HSE.out.2⟩), nq, rfl⟩
                    · have q1 : (x.s == x0.s) = true := by simp [hs]
                      have q2 : (x.e == x0.e) = false := by simp [he]
                      clear hs he
                      go_quiet (fail)
                      go_wp2_with fail
                      go_meet
                      exact ⟨false, rfl, (fun h => by cases h), nq, rfl⟩
                  · have q1 : (x.s == x0.s) = false := by simp [hs]
                    clear hs
                    go_quiet (fail)
                    go_wp2_with fail
                    go_meet
                    exact ⟨false, rfl, (fun h => by cases h), nq, rfl⟩
              case rest =>
                obtain ⟨ba2, rfl, hba, q, rfl⟩ := hcut
                have HBA := Aside0.mk hba
                have HDN := Aside0.mk (below_drewN (Below.refl WB.heap.size WB) q)
                have hmem : x ∈ xs := by rw [← HXX.out.1]; exact List.getElem_mem hlt
                have HFX := Aside0.mk (HFI.out x hmem)
                clear hba hmem f2 f3 n0 n1 n2 n3
                obtain ⟨n0, n1, n2, n3⟩ := HCX.out _ HDN.out
                go_wp2_with fail
                refine (ordered_calls x.a x.cap x.la _ (HLAB.out.1.next HDN.out) (fits_len4 HFX.out.1)).mono ?_
                rintro e w5 ⟨rfl, hb5⟩
                have HB5 := Aside0.mk (below_step HDN.out hb5)
                have HBN := Aside0.mk (below_step (below_step HBW.out HBX.out) HB5.out)
                clear hb5 n0 n1 n2 n3
                obtain ⟨n0, n1, n2, n3⟩ := HCX.out _ HB5.out
                cases zo : ordB x.la with
                | false =>
                  go_wp2_with fail
                  refine (awake_calls _ (HG.out.next HBN.out)).mono ?_
                  rintro e w6 ⟨rfl, hb6⟩
                  have HB6 := Aside0.mk (below_step HBN.out hb6); clear hb6
                  go_wp2
                  go_ret
                  exact ⟨rfl, HB6.out⟩
                | true =>
                  cases z0 : decide (0 < x.lb.length) with
                  | true =>
                    go_wp2_with fail
                    refine (awake_calls _ (HG.out.next HBN.out)).mono ?_
                    rintro e w6 ⟨rfl, hb6⟩
                    have HB6 := Aside0.mk (below_step HBN.out hb6); clear hb6
                    go_wp2
                    go_ret
                    exact ⟨rfl, HB6.out⟩
                  | false =>
                    cases z1 : decide (x.s < 1) with
                    | true =>
                      go_wp2_with fail
                      refine (awake_calls _ (HG.out.next HBN.out)).mono ?_
                      rintro e w6 ⟨rfl, hb6⟩
                      have HB6 := Aside0.mk (below_step HBN.out hb6); clear hb6
                      go_wp2
                      go_ret
                      exact ⟨rfl, HB6.out⟩
                    | false =>
                      cases z2 : decide (8589934592 < x.s) with
                      | true =>
                        go_wp2_with fail
                        refine (awake_calls _ (HG.out.next HBN.out)).mono ?_
                        rintro e w6 ⟨rfl, hb6⟩
                        have HB6 := Aside0.mk (below_step HBN.out hb6); clear hb6
                        go_wp2
                        go_ret
                        exact ⟨rfl, HB6.out⟩
                      | false =>
                        cases z3 : decide (x.e < 0) with
                        | true =>
                          go_wp2_with fail
                          refine (awake_calls _ (HG.out.next HBN.out)).mono ?_
                          rintro e w6 ⟨rfl, hb6⟩
                          have HB6 := Aside0.mk (below_step HBN.out hb6); clear hb6
                          go_wp2
                          go_ret
                          exact ⟨rfl, HB6.out⟩
                        | false =>
                          cases z4 : decide (8589934592 < x.e) with
                          | true =>
                            go_wp2_with fail
                            refine (awake_calls _ (HG.out.next HBN.out)).mono ?_
                            rintro e w6 ⟨rfl, hb6⟩
                            have HB6 := Aside0.mk (below_step HBN.out hb6); clear hb6
                            go_wp2
                            go_ret
                            exact ⟨rfl, HB6.out⟩
                          | false =>
                            have HGX := Aside0.mk (show GoodL x from ⟨zo, List.eq_nil_of_length_eq_zero (by have := of_decide_eq_false z0; omega), by have := of_decide_eq_false z1; omega, by have := of_decide_eq_false z2; omega, by have := of_decide_eq_false z3; omega, by have := of_decide_eq_false z4; omega⟩)
                            go_wp2_with fail
                            clear z0 z1 z2 z3 z4 zo
                            obtain ⟨RR, hRR⟩ : ∃ RR : Nat, RR = wr.heap.size := ⟨_, rfl⟩
                            rw [← hRR] at HCX ⊢
                            clear n0 n1 n2 n3
                            clear hRR
                            go_loopg [9] (i + 1) (fun g v9 w' => ∃ k : Nat, v9 = .int .i64 (k : Int) ∧ k + g = i + 1 ∧ k ≤ i ∧ Aside0 (Below WB.heap.size WB w'))
                            case atStart => exact ⟨0, rfl, by omega, by omega, HB5⟩
                            case round =>
                              obtain ⟨k, rfl, hkg, hki, HBK⟩ := hrel
                              have HBN2 := Aside0.mk (below_step (below_step HBW.out HBX.out) HBK.out)
                              obtain ⟨n0, n1, n2, n3⟩ := HCX.out _ HBK.out
                              by_cases hlk : k < i
                              · obtain ⟨g2, rfl⟩ : ∃ m, gk = m + 1 := ⟨gk - 1, by omega⟩
                                rcases HX.out.next HBN2.out with h | ⟨b9, off9, ha9, hblt9, hc9⟩
                                · rw [h] at hlt; simp at hlt
                                cases ha9
                                obtain ⟨c0, _, _, _, hlk0, _⟩ := hc9 k (by omega)
                                obtain ⟨y, hyy⟩ : ∃ y, xs[k]'(by omega) = y := ⟨_, rfl⟩
                                rw [hyy] at c0 hlk0
                                have hgy : GoodL y := HGOOD.out y (by rw [← hyy]; exact List.mem_take_iff_getElem.2 ⟨k, by omega, rfl⟩)
                                have HLK := Aside0.mk (And.intro hlk0 (And.intro (HLAB.out.1.next HBK.out) (And.intro (ord_ten4 hgy.1) (ord_ten4 HGX.out.1))))
                                clear hc9 hyy hlk0 hgy hblt9
                                have HBRD := Aside0.mk (Below.refl wr.heap.size wr).drew
                                have HCY := Aside0.mk (show ∀ W', Below wr.heap.size wr W' → (fun w' : World => w'.cell? ⟨b, off + k * 4, none⟩ = some (.slice y.a y.la.length y.cap) ∧ w'.cell? ⟨RR, 0, none⟩ = some (.slice x.a x.la.length x.cap)) W' from fun W' hb => ⟨(hb.cell (p := ⟨b, off + k * 4, none⟩) (by have h1 := HBL.out; have h2 := HBX.out.size; have h3 := HBK.out.size; show b < _; omega)).trans c0, (HCX.out _ (below_step HBK.out hb)).1⟩)
                                have hS0 := HCY.out _ HBRD.out
                                have hkx : k < xs.length := by omega
                                have hkz : (0 : Int) ≤ (k : Int) := by omega
                                have hky : (k : Int) < (xs.length : Int) := by omega
                                go_wp2_with fail
                                go_region_held3 (fun w' : World => w'.cell? ⟨b, off + k * 4, none⟩ = some (.slice y.a y.la.length y.cap) ∧ w'.cell? ⟨RR, 0, none⟩ = some (.slice x.a x.la.length x.cap)) (first | assumption | go_keep) (first
                                  | (go_at_call 14; refine Calls.mono (specSame_calls y.a x.a y.cap x.cap y.la x.la _ (HLK.out.1.next HBRD.out) (HLK.out.2.1.next HBRD.out) (by have := HLK.out.2.2.1; omega) (by have := HLK.out.2.2.2; omega)) ?_; rintro e w7 ⟨rfl, hb7⟩; have HB7 := Aside0.mk (below_step HBRD.out hb7); have hS7 := HCY.out _ HB7.out; clear hb7))
                                cases ze : eqLB y.la x.la with
                                | true =>
                                  have HBN := Aside0.mk (below_step HBN2.out HB7.out)
                                  go_wp2_with fail
                                  refine (awake_calls _ (HG.out.next HBN.out)).mono ?_
                                  rintro e w6 ⟨rfl, hb6⟩
                                  have HB6 := Aside0.mk (below_step HBN.out hb6); clear hb6
                                  go_wp2
                                  go_ret
                                  exact ⟨rfl, HB6.out⟩
                                | false =>
                                  go_wp2_with fail
                                  go_roundg g2
                                  case measure => omega
                                  case rel => exact ⟨k + 1, by go_num, by omega, by omega, ⟨below_step HBK.out HB7.out⟩⟩
                              · cases bf with
 | true =>
   have HCC := Aside0.mk (trivial)
   go_wp2_with fail
   go_roundg g1
   case measure => omega
   case rel =>
     refine ⟨i + 1, true, ba2, rfl, rfl, by go_num, by omega, by omega, ⟨by rw [List.take_succ_eq_append_getElem hlt]; rw [fireL_snoc, HXX.out.1, ← HFIRE.out]; simp [HCC.out]⟩, ⟨fun h => alike_step hlt (HALI.out (HBA.out h).1) (by rw [HXX.out.1, HXX.out.2]; exact (HBA.out h).2)⟩, ⟨fun z hz => ?_⟩, HBN2⟩
     rw [List.take_succ_eq_append_getElem hlt] at hz
     rcases List.mem_append.1 hz with hz | hz
     · exact HGOOD.out z hz
     · rw [List.mem_singleton] at hz
       (rw [hz, HXX.out.1]; exact HGX.out)
 | false =>
   by_cases ze0 : x.e = 0
   · have q0 : (x.e == 0) = true := by simp [ze0]
     have HCC := Aside0.mk ze0
     clear ze0
     go_wp2_with fail
     go_roundg g1
     case measure => omega
     case rel =>
       refine ⟨i + 1, true, ba2, rfl, rfl, by go_num, by omega, by omega, ⟨by rw [List.take_succ_eq_append_getElem hlt]; rw [fireL_snoc, HXX.out.1, ← HFIRE.out]; simp [HCC.out]⟩, ⟨fun h => alike_step hlt (HALI.out (HBA.out h).1) (by rw [HXX.out.1, HXX.out.2]; exact (HBA.out h).2)⟩, ⟨fun z hz => ?_⟩, HBN2⟩
       rw [List.take_succ_eq_append_getElem hlt] at hz
       rcases List.mem_append.1 hz with hz | hz
       · exact HGOOD.out z hz
       · rw [List.mem_singleton] at hz
         (rw [hz, HXX.out.1]; exact HGX.out)
   · have q0 : (x.e == 0) = false := by simp [ze0]
     cases zt : decide (t < x.e) with
     | true =>
       have HCC := Aside0.mk (And.intro ze0 (of_decide_eq_true zt))
       clear ze0
       go_wp2_with fail
       go_roundg g1
       case measure => omega
       case rel =>
         refine ⟨i + 1, true, ba2, rfl, rfl, by go_num, by omega, by omega, ⟨by rw [List.take_succ_eq_append_getElem hlt]; rw [fireL_snoc, HXX.out.1, ← HFIRE.out]; simp [HCC.out]⟩, ⟨fun h => alike_step hlt (HALI.out (HBA.out h).1) (by rw [HXX.out.1, HXX.out.2]; exact (HBA.out h).2)⟩, ⟨fun z hz => ?_⟩, HBN2⟩
         rw [List.take_succ_eq_append_getElem hlt] at hz
         rcases List.mem_append.1 hz with hz | hz
         · exact HGOOD.out z hz
         · rw [List.mem_singleton] at hz
           (rw [hz, HXX.out.1]; exact HGX.out)
     | false =>
       have HCC := Aside0.mk (And.intro ze0 (of_decide_eq_false zt))
       clear ze0
       go_wp2_with fail
       go_roundg g1
       case measure => omega
       case rel =>
         refine ⟨i + 1, false, ba2, rfl, rfl, by go_num, by omega, by omega, ⟨by rw [List.take_succ_eq_append_getElem hlt]; rw [fireL_snoc, HXX.out.1, ← HFIRE.out]; simp [HCC.out]⟩, ⟨fun h => alike_step hlt (HALI.out (HBA.out h).1) (by rw [HXX.out.1, HXX.out.2]; exact (HBA.out h).2)⟩, ⟨fun z hz => ?_⟩, HBN2⟩
         rw [List.take_succ_eq_append_getElem hlt] at hz
         rcases List.mem_append.1 hz with hz | hz
         · exact HGOOD.out z hz
         · rw [List.mem_singleton] at hz
           (rw [hz, HXX.out.1]; exact HGX.out)
            · have hie : i = xs.length := by omega
              have HFE := Aside0.mk (show bf = fireL xs t by have h1 := HFIRE.out; rwa [hie, List.take_length] at h1)
              have HAE := Aside0.mk (show ba = true → AlikeX xs by have h1 := HALI.out; rwa [hie, List.take_length] at h1)
              have hgd : ∀ x ∈ xs, GoodL x := by have h1 := HGOOD.out; rwa [hie, List.take_length] at h1
              have HGD := Aside0.mk hgd
              have HGG := Aside0.mk (show ∀ x ∈ xs, Good x from fun x hx => by obtain ⟨g0, g1, g2, g3, g4, g5⟩ := hgd x hx; exact ⟨(ord_of g0).1, (ord_of g0).2, g1, by omega, g3, g4, g5⟩)
              clear hgd hig hile hie HFIRE HALI HGOOD
              go_wp2_with fail
              refine (alertsSorted_calls a cap xs _ (HX.out.next HBW.out) HGG.out h8).mono ?_
              rintro e w5 ⟨a5, c5, ys, P, rfl, hin5, hkey, hpm, hup, hb5⟩
              have HB5 := Aside0.mk (below_step HBW.out hb5)
              have HIN := Aside0.mk hin5
              have HKP := Aside0.mk (And.intro hkey (And.intro hpm hup))
              have hyl : ys.length = xs.length := by
                have h1 := congrArg List.length hkey
                have h2 := hpm.length_eq
                simp at h1 h2
                omega
              have q0 : ((ys.length : Int) != (xs.length : Int)) = false := by simp [hyl]
              clear hin5 hkey hpm hup hb5
              go_wp2_with fail
              obtain ⟨WB, hWB⟩ : ∃ WB : World, WB = w5 := ⟨_, rfl⟩
              subst hWB
              go_loopg [11] (ys.length + 1) (fun g v11 w' => ∃ i : Nat, v11 = .int .i64 (i : Int) ∧ i + g = ys.length + 1 ∧ i ≤ ys.length ∧ Aside0 (Below WB.heap.size WB w'))
              case atStart => exact ⟨0, rfl, by omega, by omega, ⟨Below.refl _ _⟩⟩
              case round =>
                obtain ⟨i, rfl, hig, hile, HBI⟩ := hrel
                by_cases hlt : i < ys.length
                · obtain ⟨g1, rfl⟩ : ∃ m, gk = m + 1 := ⟨gk - 1, by omega⟩
                  rcases HIN.out with h | ⟨b5, off5, ha, hblt, hc⟩
                  · rw [h] at hlt; simp at hlt
                  subst ha
                  have HC5 := Aside0.mk hc
                  have HBL5 := Aside0.mk hblt
                  clear hc hblt
                  go_wp2_with fail
                  go_cut [151] (fun v w' => v = .bool false ∧ Below WB.heap.size WB w')
                  case first =>
                    as_aux_lemma =>
                     rcases i with _ | j
                     · go_quiet (fail)
                       go_wp2_with fail
                       go_meet
                       exact ⟨rfl, below_drewN HBI.out _⟩
                     · cases ba with
                       | false =>
                         go_quiet (fail)
                         go_wp2_with fail
                         go_meet
                         exact ⟨rfl, below_drewN HBI.out _⟩
                       | true =>
                         obtain ⟨c0, _, _, _, l0, _⟩ := HC5.out j (by omega)
                         obtain ⟨c1, _, _, _, l1, _⟩ := HC5.out (j + 1) hlt
                         have hgt := ys_order HKP.out.1 HKP.out.2.1 HKP.out.2.2 (HAE.out rfl) HGD.out hlt
                         have hsz : ∀ k (hk : k < ys.length), Sized (ys[k]'hk).la := fun k hk => by
                           obtain ⟨x, hx, he⟩ := ys_in HKP.out.1 HKP.out.2.1 hk
                           have h1 : x.la = (ys[k]'hk).la := congrArg Prod.fst he
                           rw [← h1]; exact (ord_of (HGD.out x hx).1).1
                         have s0 := hsz j (by omega)
                         have s1 := hsz (j + 1) hlt
                         obtain ⟨y0, hy0⟩ : ∃ y, ys[j]'(by omega) = y := ⟨_, rfl⟩
                         obtain ⟨y1, hy1⟩ : ∃ y, ys[j + 1]'hlt = y := ⟨_, rfl⟩
                         rw [hy0] at c0 l0 hgt s0
                         rw [hy1] at c1 l1 hgt s1
                         have HY := Aside0.mk (And.intro l0 (And.intro l1 (And.intro s0 s1)))
                         have HGT := Aside0.mk hgt
                         have HCY := Aside0.mk (show ∀ W', Below WB.heap.size WB W' → (fun w' : World => w'.cell? ⟨b5, off5 + j * 4, none⟩ = some (.slice y0.a y0.la.length y0.cap) ∧ w'.cell? ⟨b5, off5 + (j + 1) * 4, none⟩ = some (.slice y1.a y1.la.length y1.cap)) W' from fun W' hb => ⟨(hb.cell (p := ⟨b5, off5 + j * 4, none⟩) HBL5.out).trans c0, (hb.cell (p := ⟨b5, off5 + (j + 1) * 4, none⟩) HBL5.out).trans c1⟩)
                         have HBD := Aside0.mk HBI.out.drew
                         have hjb : j < 9223372036854775807 := by omega
                         have hwj : IntKind.i64.wrap (j : Int) = (j : Int) := by simp [IntKind.wrap, IntKind.bits, IntKind.signed]; omega
                         have hwj2 : IntKind.i64.wrap ((j : Int) + 1 - 1) = (j : Int) := by rw [show (j : Int) + 1 - 1 = (j : Int) by omega]; exact hwj
                         have i4 : (j : Int) < (ys.length : Int) := by omega
                         have i5 : (j : Int) + 1 < (ys.length : Int) := by omega
                         have i6 : (j : Int) + 1 - 1 < (ys.length : Int) := by omega
                         have i7 : (0 : Int) ≤ (j : Int) + 1 - 1 := by omega
                         have i8 : (j : Int) + 1 - 1 < (xs.length : Int) := by omega
                         have i0 : (0 : Int) ≤ (j : Int) := by omega
                         have i1 : (j : Int) < (xs.length : Int) := by omega
                         have i2 : (0 : Int) ≤ (j : Int) + 1 := by omega
                         have i3 : (j : Int) + 1 < (xs.length : Int) := by omega
                         have hS0 := HCY.out _ HBD.out
                         obtain ⟨f0, hf0⟩ : ∃ f, fnvL fnv0 (flatL y0.la) = f := ⟨_, rfl⟩
                         obtain ⟨f1, hf1⟩ : ∃ f, fnvL fnv0 (flatL y1.la) = f := ⟨_, rfl⟩
                         rw [hf0, hf1] at hgt
                         have HFF := Aside0.mk (And.intro hf0 hf1)
                         clear l0 l1 s0 s1 hsz hy0 hy1 c0 c1 hf0 hf1 HGT
                         go_region_held3 (fun w' : World => w'.cell? ⟨b5, off5 + j * 4, none⟩ = some (.slice y0.a y0.la.length y0.cap) ∧ w'.cell? ⟨b5, off5 + (j + 1) * 4, none⟩ = some (.slice y1.a y1.la.length y1.cap)) (first | assumption | go_keep) (first
                           | (go_at_call_of 16 (Value.slice y0.a y0.la.length y0.cap); refine Calls.mono (specFinger_calls y0.a y0.cap y0.la _ (HY.out.1.next HBD.out) HY.out.2.2.1) ?_; rintro e z1 ⟨rfl, hb1⟩; rw [HFF.out.1]; have HZ1 := Aside0.mk (below_step HBD.out hb1); have hS1 := HCY.out _ HZ1.out; clear hb1)
                           | (go_at_call_of 16 (Value.slice y1.a y1.la.length y1.cap); refine Calls.mono (specFinger_calls y1.a y1.cap y1.la _ (HY.out.2.1.next HZ1.out) HY.out.2.2.2) ?_; rintro e z2 ⟨rfl, hb2⟩; rw [HFF.out.2]; have HZ2 := Aside0.mk (below_step HZ1.out hb2); have hS2 := HCY.out _ HZ2.out; clear hb2))
                         go_wp2_with fail
                         go_meet
                         exact ⟨rfl, HZ2.out⟩
                  case rest =>
                    as_aux_lemma =>
                     obtain ⟨rfl, hbw⟩ := hcut
                     have HBI2 := Aside0.mk hbw
                     clear hbw
                     obtain ⟨y, hy⟩ : ∃ y, ys[i]'hlt = y := ⟨_, rfl⟩
                     obtain ⟨c0, _, c2, c3, l0, _⟩ := HC5.out i hlt
                     obtain ⟨x9, hx9, he9⟩ := ys_in HKP.out.1 HKP.out.2.1 hlt
                     rw [hy] at c0 c2 c3 l0 he9
                     have HIN9 := Aside0.mk (show ∃ x ∈ xs, keyD x = keyD y from ⟨x9, hx9, he9⟩)
                     have hsy : y.la.length ≤ 20 := by
                       have h1 : x9.la = y.la := congrArg Prod.fst he9
                       have h2 := ord_ten4 (HGD.out x9 hx9).1
                       rw [← h1]; omega
                     have HLY := Aside0.mk (And.intro l0 hsy)
                     have HCI := Aside0.mk (And.intro c0 (And.intro c2 c3))
                     clear c0 c2 c3 l0 he9 hx9 hsy hy
                     go_wp2_with fail
                     go_loopg [12, 13] (xs.length + 1) (fun g v12 v13 w' => ∃ (k : Nat) (bf2 : Bool), v12 = .bool bf2 ∧ v13 = .int .i64 (k : Int) ∧ k + g = xs.length + 1 ∧ k ≤ xs.length ∧ Aside0 (∀ x ∈ xs.take k, keyD x = keyD y → bf2 = true) ∧ Aside0 (Below WB.heap.size WB w'))
                     case atStart => exact ⟨0, false, rfl, rfl, by omega, by omega, ⟨fun x hx => by simp at hx⟩, HBI2⟩
                     case round =>
                       obtain ⟨k, bf2, rfl, rfl, hkg, hkl, HFB, HBK⟩ := hrel
                       by_cases hlk : k < xs.length
                       · obtain ⟨g2, rfl⟩ : ∃ m, gk = m + 1 := ⟨gk - 1, by omega⟩
                         have HBN2 := Aside0.mk (below_step HB5.out HBK.out)
                         rcases HX.out.next HBN2.out with h | ⟨b9, off9, ha9, hblt9, hc9⟩
                         · rw [h] at hlk; simp at hlk
                         cases ha9
                         obtain ⟨d0, _, d2, d3, m0, _⟩ := hc9 k hlk
                         obtain ⟨x, hxx⟩ : ∃ x, xs[k]'hlk = x := ⟨_, rfl⟩
                         rw [hxx] at d0 d2 d3 m0
                         have HXX := Aside0.mk hxx
                         have hgx : GoodL x := HGD.out x (by rw [← hxx]; exact List.getElem_mem ..)
                         have HLX := Aside0.mk (And.intro m0 (show x.la.length ≤ 20 from by have := ord_ten4 hgx.1; omega))
                         have HBRD := Aside0.mk (Below.refl wr.heap.size wr).drew
                         have HCY := Aside0.mk (show ∀ W', Below wr.heap.size wr W' → (fun w' : World => w'.cell? ⟨b9, off9 + k * 4, none⟩ = some (.slice x.a x.la.length x.cap) ∧ w'.cell? ⟨b9, off9 + k * 4 + 2, none⟩ = some (.int .i64 x.s) ∧ w'.cell? ⟨b9, off9 + k * 4 + 3, none⟩ = some (.int .i64 x.e) ∧
                             w'.cell? ⟨b5, off5 + i * 4, none⟩ = some (.slice y.a y.la.length y.cap) ∧ w'.cell? ⟨b5, off5 + i * 4 + 2, none⟩ = some (.int .i64 y.s) ∧ w'.cell? ⟨b5, off5 + i * 4 + 3, none⟩ = some (.int .i64 y.e)) W' from fun W' hb => by
                           have hbb := below_step HBK.out hb
                           exact ⟨(hb.cell (p := ⟨b9, off9 + k * 4, none⟩) hblt9).trans d0, (hb.cell (p := ⟨b9, off9 + k * 4 + 2, none⟩) hblt9).trans d2, (hb.cell (p := ⟨b9, off9 + k * 4 + 3, none⟩) hblt9).trans d3, (hbb.cell (p := ⟨b5, off5 + i * 4, none⟩) HBL5.out).trans HCI.out.1, (hbb.cell (p := ⟨b5, off5 + i * 4 + 2, none⟩) HBL5.out).trans HCI.out.2.1, (hbb.cell (p := ⟨b5, off5 + i * 4 + 3, none⟩) HBL5.out).trans HCI.out.2.2⟩)
                         have hS0 := HCY.out _ HBRD.out
                         have i0 : (0 : Int) ≤ (k : Int) := by omega
                         have i1 : (k : Int) < (xs.length : Int) := by omega
                         have i2 : (0 : Int) ≤ (i : Int) := by omega
                         have i3 : (i : Int) < (xs.length : Int) := by omega
                         clear hc9 hxx m0 hgx hblt9 d0 d2 d3
                         go_wp2_with fail
                         have HNX := Aside0.mk (show ∀ B : Bool, B = (bf2 || (eqLB x.la y.la && ((x.s == y.s) && (x.e == y.e)))) → ∀ z ∈ xs.take (k + 1), keyD z = keyD y → B = true from fun B hB z hz hk => by
                           rw [List.take_succ_eq_append_getElem hlk] at hz
                           rcases List.mem_append.1 hz with hz | hz
                           · rw [hB, HFB.out z hz hk]; rfl
                           · rw [List.mem_singleton] at hz
                             rw [hz, HXX.out] at hk
                             have h1 : x.la = y.la := congrArg Prod.fst hk
                             have h2 : x.s = y.s := congrArg (fun p => p.2.1) hk
                             have h3 : x.e = y.e := congrArg (fun p => p.2.2) hk
                             rw [hB, eqLB_true h1, h2, h3]
                             simp)
                         cases bf2 with
                         | true =>
                           clear hS0
                           go_quiet (fail)
                           go_wp2_with fail
                           go_roundg g2
                           case measure => omega
                           case rel => exact ⟨k + 1, true, rfl, by go_num, by omega, by omega, ⟨HNX.out _ (rfl)⟩, ⟨below_drewN HBK.out _⟩⟩
                         | false =>
                           cases ze : eqLB x.la y.la with
                           | false =>
                             as_aux_lemma =>
                              clear hS0
                              have hb0 := HBRD.out
                              refine wp_region_noPanic ?_
                              refine wp_region_held_drew (S := fun w' => Below wr.heap.size wr w') (by kernel_rfl) hb0 (fun hS0 => ?_)
                              refine wpAnyH_take (i := 0) (oi := { dst := some 158, op := Op.move (Operand.tmp 12), type := 4, pos := "orders.go:189", after := #[], guard := none }) (v := ?v1) rfl (by kernel_rfl) (by kernel_rfl) (by kernel_rfl) (fun _ _ _ h => h) (Or.inl ⟨by rfl, ?hy1⟩) hS0 ?rest1
                              case hy1 => (intro w' hSw; obtain ⟨x0, x1, x2, x3, x4, x5⟩ := HCY.out _ hSw; go_simp; try with_reducible rfl)
                              try simp only [Act.put, List.setIfInBounds_toArray, List.set_cons_zero, List.set_cons_succ]
                              refine wpAnyH_take (i := 1) (oi := { dst := some 159, op := Op.move (Operand.tmp 158), type := 4, pos := "orders.go:189", after := #[{ on := 0, ground := Ground.data }], guard := none }) (v := ?v2) rfl (by kernel_rfl) (by kernel_rfl) (by kernel_rfl) (fun _ _ _ h => h) (Or.inl ⟨by rfl, ?hy2⟩) hS0 ?rest2
                              case hy2 => (intro w' hSw; obtain ⟨x0, x1, x2, x3, x4, x5⟩ := HCY.out _ hSw; go_simp; try with_reducible rfl)
                              try simp only [Act.put, List.setIfInBounds_toArray, List.set_cons_zero, List.set_cons_succ]
                              refine wpAnyH_take (i := 2) (oi := { dst := some 160, op := Op.move (Operand.tmp 0), type := 49, pos := "orders.go:189", after := #[{ on := 1, ground := Ground.guard }], guard := some (1, false) }) (v := ?v3) rfl (by kernel_rfl) (by kernel_rfl) (by kernel_rfl) (fun _ _ _ h => h) (Or.inl ⟨by rfl, ?hy3⟩) hS0 ?rest3
                              case hy3 => (intro w' hSw; obtain ⟨x0, x1, x2, x3, x4, x5⟩ := HCY.out _ hSw; go_simp; try with_reducible rfl)
                              try simp only [Act.put, List.setIfInBounds_toArray, List.set_cons_zero, List.set_cons_succ]
                              refine wpAnyH_take (i := 3) (oi := { dst := some 161, op := Op.move (Operand.tmp 13), type := 3, pos := "orders.go:189", after := #[{ on := 1, ground := Ground.guard }], guard := some (1, false) }) (v := ?v4) rfl (by kernel_rfl) (by kernel_rfl) (by kernel_rfl) (fun _ _ _ h => h) (Or.inl ⟨by rfl, ?hy4⟩) hS0 ?rest4
                              case hy4 => (intro w' hSw; obtain ⟨x0, x1, x2, x3, x4, x5⟩ := HCY.out _ hSw; go_simp; try with_reducible rfl)
                              try simp only [Act.put, List.setIfInBounds_toArray, List.set_cons_zero, List.set_cons_succ]
                              refine wpAnyH_take (i := 4) (oi := { dst := some 162, op := Op.indexAddr 49 (Operand.tmp 160) (Operand.tmp 161), type := 0, pos := "orders.go:189", after := #[{ on := 2, ground := Ground.data }, { on := 3, ground := Ground.data }, { on := 1, ground := Ground.guard }], guard := some (1, false) }) (v := ?v5) rfl (by kernel_rfl) (by kernel_rfl) (by kernel_rfl) (fun _ _ _ h => h) (Or.inl ⟨by rfl, ?hy5⟩) hS0 ?rest5
                              case hy5 => (intro w' hSw; obtain ⟨x0, x1, x2, x3, x4, x5⟩ := HCY.out _ hSw; go_simp; try with_reducible rfl)
                              try simp only [Act.put, List.setIfInBounds_toArray, List.set_cons_zero, List.set_cons_succ]
                              refine wpAnyH_take (i := 5) (oi := { dst := some 163, op := Op.fieldAddr 31 (Operand.tmp 162) 0, type := 0, pos := "orders.go:189", after := #[{ on := 4, ground := Ground.data }, { on := 1, ground := Ground.guard }], guard := some (1, false) }) (v := ?v6) rfl (by kernel_rfl) (by kernel_rfl) (by kernel_rfl) (fun _ _ _ h => h) (Or.inl ⟨by rfl, ?hy6⟩) hS0 ?rest6
                              case hy6 => (intro w' hSw; obtain ⟨x0, x1, x2, x3, x4, x5⟩ := HCY.out _ hSw; go_simp; try with_reducible rfl)
                              try simp only [Act.put, List.setIfInBounds_toArray, List.set_cons_zero, List.set_cons_succ]
                              refine wpAnyH_take (i := 6) (oi := { dst := some 164, op := Op.load 22 (Operand.tmp 163), type := 22, pos := "orders.go:189", after := #[{ on := 5, ground := Ground.data }, { on := 1, ground := Ground.guard }], guard := some (1, false) }) (v := ?v7) rfl (by kernel_rfl) (by kernel_rfl) (by kernel_rfl) (fun _ _ _ h => h) (Or.inl ⟨by rfl, ?hy7⟩) hS0 ?rest7
                              case hy7 => (intro w' hSw; obtain ⟨x0, x1, x2, x3, x4, x5⟩ := HCY.out _ hSw; go_simp; try with_reducible rfl)
                              try simp only [Act.put, List.setIfInBounds_toArray, List.set_cons_zero, List.set_cons_succ]
                              refine wpAnyH_take (i := 7) (oi := { dst := some 165, op := Op.move (Operand.tmp 10), type := 49, pos := "orders.go:189", after := #[{ on := 1, ground := Ground.guard }], guard := some (1, false) }) (v := ?v8) rfl (by kernel_rfl) (by kernel_rfl) (by kernel_rfl) (fun _ _ _ h => h) (Or.inl ⟨by rfl, ?hy8⟩) hS0 ?rest8
                              case hy8 => (intro w' hSw; obtain ⟨x0, x1, x2, x3, x4, x5⟩ := HCY.out _ hSw; go_simp; try with_reducible rfl)
                              try simp only [Act.put, List.setIfInBounds_toArray, List.set_cons_zero, List.set_cons_succ]
                              refine wpAnyH_take (i := 8) (oi := { dst := some 166, op := Op.move (Operand.tmp 11), type := 3, pos := "orders.go:189", after := #[{ on := 1, ground := Ground.guard }], guard := some (1, false) }) (v := ?v9) rfl (by kernel_rfl) (by kernel_rfl) (by kernel_rfl) (fun _ _ _ h => h) (Or.inl ⟨by rfl, ?hy9⟩) hS0 ?rest9
                              case hy9 => (intro w' hSw; obtain ⟨x0, x1, x2, x3, x4, x5⟩ := HCY.out _ hSw; go_simp; try with_reducible rfl)
                              try simp only [Act.put, List.setIfInBounds_toArray, List.set_cons_zero, List.set_cons_succ]
                              refine wpAnyH_take (i := 9) (oi := { dst := some 167, op := Op.indexAddr 49 (Operand.tmp 165) (Operand.tmp 166), type := 0, pos := "orders.go:189", after := #[{ on := 7, ground := Ground.data }, { on := 8, ground := Ground.data }, { on := 1, ground := Ground.guard }], guard := some (1, false) }) (v := ?v10) rfl (by kernel_rfl) (by kernel_rfl) (by kernel_rfl) (fun _ _ _ h => h) (Or.inl ⟨by rfl, ?hy10⟩) hS0 ?rest10
                              case hy10 => (intro w' hSw; obtain ⟨x0, x1, x2, x3, x4, x5⟩ := HCY.out _ hSw; go_simp; try with_reducible rfl)
                              try simp only [Act.put, List.setIfInBounds_toArray, List.set_cons_zero, List.set_cons_succ]
                              refine wpAnyH_take (i := 10) (oi := { dst := some 168, op := Op.fieldAddr 31 (Operand.tmp 167) 0, type := 0, pos := "orders.go:189", after := #[{ on := 9, ground := Ground.data }, { on := 1, ground := Ground.guard }], guard := some (1, false) }) (v := ?v11) rfl (by kernel_rfl) (by kernel_rfl) (by kernel_rfl) (fun _ _ _ h => h) (Or.inl ⟨by rfl, ?hy11⟩) hS0 ?rest11
                              case hy11 => (intro w' hSw; obtain ⟨x0, x1, x2, x3, x4, x5⟩ := HCY.out _ hSw; go_simp; try with_reducible rfl)
                              try simp only [Act.put, List.setIfInBounds_toArray, List.set_cons_zero, List.set_cons_succ]
                              refine wpAnyH_take (i := 11) (oi := { dst := some 169, op := Op.load 22 (Operand.tmp 168), type := 22, pos := "orders.go:189", after := #[{ on := 10, ground := Ground.data }, { on := 1, ground := Ground.guard }], guard := some (1, false) }) (v := ?v12) rfl (by kernel_rfl) (by kernel_rfl) (by kernel_rfl) (fun _ _ _ h => h) (Or.inl ⟨by rfl, ?hy12⟩) hS0 ?rest12
                              case hy12 => (intro w' hSw; obtain ⟨x0, x1, x2, x3, x4, x5⟩ := HCY.out _ hSw; go_simp; try with_reducible rfl)
                              try simp only [Act.put, List.setIfInBounds_toArray, List.set_cons_zero, List.set_cons_succ]
                              refine wpAnyH_ready (rs := [12]) (by kernel_rfl) (by simp) ?_
                              refine AllReadyH.cons (o := { dst := some 170, op := Op.call { callee := Callee.value (Operand.func 14), args := #[Operand.tmp 164, Operand.tmp 169], argTypes := #[22, 22] }, type := 4, pos := "orders.go:189", after := #[{ on := 6, ground := Ground.data }, { on := 11, ground := Ground.data }, { on := 1, ground := Ground.chain }, { on := 1, ground := Ground.guard }], guard := some (1, false) }) rfl (fun K hK => ?_) ?_
                              ·
                                go_simp
                                go_at_call 14
                                refine Calls.mono (specSame_calls x.a y.a x.cap y.cap x.la y.la _ (HLX.out.1.next HBRD.out) (HLY.out.1.next (below_step HBK.out HBRD.out)) HLX.out.2 HLY.out.2) ?_
                                rintro e w7 ⟨rfl, hb7⟩
                                rw [ze]
                                have HB7 := Aside0.mk (below_step HBRD.out hb7)
                                clear hb7
                                refine hK.out _ _ HB7.out (fun hS7 => ?_)
                                try simp only [Act.put, List.setIfInBounds_toArray, List.set_cons_zero, List.set_cons_succ]
                                refine wpAnyH_take (i := 13) (oi := { dst := some 171, op := Op.move (Operand.tmp 170), type := 4, pos := "orders.go:189", after := #[{ on := 12, ground := Ground.data }, { on := 12, ground := Ground.chain }, { on := 1, ground := Ground.guard }], guard := some (1, false) }) (v := ?v13) rfl (by kernel_rfl) (by kernel_rfl) (by kernel_rfl) (fun _ _ _ h => h) (Or.inl ⟨by rfl, ?hy13⟩) hS7 ?rest13
                                case hy13 => (intro w' hSw; obtain ⟨x0, x1, x2, x3, x4, x5⟩ := HCY.out _ hSw; go_simp; try with_reducible rfl)
                                try simp only [Act.put, List.setIfInBounds_toArray, List.set_cons_zero, List.set_cons_succ]
                                refine wpAnyH_take (i := 14) (oi := { dst := some 172, op := Op.move (Operand.tmp 0), type := 49, pos := "orders.go:189", after := #[{ on := 13, ground := Ground.guard }], guard := some (13, true) }) (v := undef) rfl (by kernel_rfl) (by kernel_rfl) (by kernel_rfl) (fun _ _ _ h => h) (Or.inr ⟨by kernel_rfl, rfl⟩) hS7 ?_
                                try simp only [Act.put, List.setIfInBounds_toArray, List.set_cons_zero, List.set_cons_succ]
                                refine wpAnyH_take (i := 15) (oi := { dst := some 173, op := Op.move (Operand.tmp 13), type := 3, pos := "orders.go:189", after := #[{ on := 13, ground := Ground.guard }], guard := some (13, true) }) (v := undef) rfl (by kernel_rfl) (by kernel_rfl) (by kernel_rfl) (fun _ _ _ h => h) (Or.inr ⟨by kernel_rfl, rfl⟩) hS7 ?_
                                try simp only [Act.put, List.setIfInBounds_toArray, List.set_cons_zero, List.set_cons_succ]
                                refine wpAnyH_take (i := 16) (oi := { dst := some 174, op := Op.indexAddr 49 (Operand.tmp 172) (Operand.tmp 173), type := 0, pos := "orders.go:189", after := #[{ on := 14, ground := Ground.data }, { on := 15, ground := Ground.data }, { on := 13, ground := Ground.guard }], guard := some (13, true) }) (v := undef) rfl (by kernel_rfl) (by kernel_rfl) (by kernel_rfl) (fun _ _ _ h => h) (Or.inr ⟨by kernel_rfl, rfl⟩) hS7 ?_
                                try simp only [Act.put, List.setIfInBounds_toArray, List.set_cons_zero, List.set_cons_succ]
                                refine wpAnyH_take (i := 17) (oi := { dst := some 175, op := Op.fieldAddr 31 (Operand.tmp 174) 2, type := 0, pos := "orders.go:189", after := #[{ on := 16, ground := Ground.data }, { on := 13, ground := Ground.guard }], guard := some (13, true) }) (v := undef) rfl (by kernel_rfl) (by kernel_rfl) (by kernel_rfl) (fun _ _ _ h => h) (Or.inr ⟨by kernel_rfl, rfl⟩) hS7 ?_
                                try simp only [Act.put, List.setIfInBounds_toArray, List.set_cons_zero, List.set_cons_succ]
                                refine wpAnyH_take (i := 18) (oi := { dst := some 176, op := Op.load 2 (Operand.tmp 175), type := 2, pos := "orders.go:189", after := #[{ on := 17, ground := Ground.data }, { on := 13, ground := Ground.guard }], guard := some (13, true) }) (v := undef) rfl (by kernel_rfl) (by kernel_rfl) (by kernel_rfl) (fun _ _ _ h => h) (Or.inr ⟨by kernel_rfl, rfl⟩) hS7 ?_
                                try simp only [Act.put, List.setIfInBounds_toArray, List.set_cons_zero, List.set_cons_succ]
                                refine wpAnyH_take (i := 19) (oi := { dst := some 177, op := Op.move (Operand.tmp 10), type := 49, pos := "orders.go:189", after := #[{ on := 13, ground := Ground.guard }], guard := some (13, true) }) (v := undef) rfl (by kernel_rfl) (by kernel_rfl) (by kernel_rfl) (fun _ _ _ h => h) (Or.inr ⟨by kernel_rfl, rfl⟩) hS7 ?_
                                try simp only [Act.put, List.setIfInBounds_toArray, List.set_cons_zero, List.set_cons_succ]
                                refine wpAnyH_take (i := 20) (oi := { dst := some 178, op := Op.move (Operand.tmp 11), type := 3, pos := "orders.go:189", after := #[{ on := 13, ground := Ground.guard }], guard := some (13, true) }) (v := undef) rfl (by kernel_rfl) (by kernel_rfl) (by kernel_rfl) (fun _ _ _ h => h) (Or.inr ⟨by kernel_rfl, rfl⟩) hS7 ?_
                                try simp only [Act.put, List.setIfInBounds_toArray, List.set_cons_zero, List.set_cons_succ]
                                refine wpAnyH_take (i := 21) (oi := { dst := some 179, op := Op.indexAddr 49 (Operand.tmp 177) (Operand.tmp 178), type := 0, pos := "orders.go:189", after := #[{ on := 19, ground := Ground.data }, { on := 20, ground := Ground.data }, { on := 13, ground := Ground.guard }], guard := some (13, true) }) (v := undef) rfl (by kernel_rfl) (by kernel_rfl) (by kernel_rfl) (fun _ _ _ h => h) (Or.inr ⟨by kernel_rfl, rfl⟩) hS7 ?_
                                try simp only [Act.put, List.setIfInBounds_toArray, List.set_cons_zero, List.set_cons_succ]
                                refine wpAnyH_take (i := 22) (oi := { dst := some 180, op := Op.fieldAddr 31 (Operand.tmp 179) 2, type := 0, pos := "orders.go:189", after := #[{ on := 21, ground := Ground.data }, { on := 13, ground := Ground.guard }], guard := some (13, true) }) (v := undef) rfl (by kernel_rfl) (by kernel_rfl) (by kernel_rfl) (fun _ _ _ h => h) (Or.inr ⟨by kernel_rfl, rfl⟩) hS7 ?_
                                try simp only [Act.put, List.setIfInBounds_toArray, List.set_cons_zero, List.set_cons_succ]
                                refine wpAnyH_take (i := 23) (oi := { dst := some 181, op := Op.load 2 (Operand.tmp 180), type := 2, pos := "orders.go:189", after := #[{ on := 22, ground := Ground.data }, { on := 13, ground := Ground.guard }], guard := some (13, true) }) (v := undef) rfl (by kernel_rfl) (by kernel_rfl) (by kernel_rfl) (fun _ _ _ h => h) (Or.inr ⟨by kernel_rfl, rfl⟩) hS7 ?_
                                try simp only [Act.put, List.setIfInBounds_toArray, List.set_cons_zero, List.set_cons_succ]
                                refine wpAnyH_take (i := 24) (oi := { dst := some 182, op := Op.binOp BinOp.eql 2 (Operand.tmp 176) (Operand.tmp 181) 2, type := 4, pos := "orders.go:189", after := #[{ on := 18, ground := Ground.data }, { on := 23, ground := Ground.data }, { on := 13, ground := Ground.guard }], guard := some (13, true) }) (v := undef) rfl (by kernel_rfl) (by kernel_rfl) (by kernel_rfl) (fun _ _ _ h => h) (Or.inr ⟨by kernel_rfl, rfl⟩) hS7 ?_
                                try simp only [Act.put, List.setIfInBounds_toArray, List.set_cons_zero, List.set_cons_succ]
                                refine wpAnyH_take (i := 25) (oi := { dst := some 183, op := Op.pick (Operand.tmp 171) (Operand.tmp 182) (Operand.const (Value.bool false)), type := 4, pos := "orders.go:189", after := #[{ on := 13, ground := Ground.data }, { on := 24, ground := Ground.data }, { on := 1, ground := Ground.guard }], guard := some (1, false) }) (v := ?v14) rfl (by kernel_rfl) (by kernel_rfl) (by kernel_rfl) (fun _ _ _ h => h) (Or.inl ⟨by rfl, ?hy14⟩) hS7 ?rest14
                                case hy14 => (intro w' hSw; obtain ⟨x0, x1, x2, x3, x4, x5⟩ := HCY.out _ hSw; go_simp; try with_reducible rfl)
                                try simp only [Act.put, List.setIfInBounds_toArray, List.set_cons_zero, List.set_cons_succ]
                                refine wpAnyH_take (i := 26) (oi := { dst := some 184, op := Op.move (Operand.tmp 183), type := 4, pos := "orders.go:189", after := #[{ on := 25, ground := Ground.data }, { on := 13, ground := Ground.chain }, { on := 1, ground := Ground.guard }], guard := some (1, false) }) (v := ?v15) rfl (by kernel_rfl) (by kernel_rfl) (by kernel_rfl) (fun _ _ _ h => h) (Or.inl ⟨by rfl, ?hy15⟩) hS7 ?rest15
                                case hy15 => (intro w' hSw; obtain ⟨x0, x1, x2, x3, x4, x5⟩ := HCY.out _ hSw; go_simp; try with_reducible rfl)
                                try simp only [Act.put, List.setIfInBounds_toArray, List.set_cons_zero, List.set_cons_succ]
                                refine wpAnyH_take (i := 27) (oi := { dst := some 185, op := Op.move (Operand.tmp 0), type := 49, pos := "orders.go:189", after := #[{ on := 26, ground := Ground.guard }], guard := some (26, true) }) (v := undef) rfl (by kernel_rfl) (by kernel_rfl) (by kernel_rfl) (fun _ _ _ h => h) (Or.inr ⟨by kernel_rfl, rfl⟩) hS7 ?_
                                try simp only [Act.put, List.setIfInBounds_toArray, List.set_cons_zero, List.set_cons_succ]
                                refine wpAnyH_take (i := 28) (oi := { dst := some 186, op := Op.move (Operand.tmp 13), type := 3, pos := "orders.go:189", after := #[{ on := 26, ground := Ground.guard }], guard := some (26, true) }) (v := undef) rfl (by kernel_rfl) (by kernel_rfl) (by kernel_rfl) (fun _ _ _ h => h) (Or.inr ⟨by kernel_rfl, rfl⟩) hS7 ?_
                                try simp only [Act.put, List.setIfInBounds_toArray, List.set_cons_zero, List.set_cons_succ]
                                refine wpAnyH_take (i := 29) (oi := { dst := some 187, op := Op.indexAddr 49 (Operand.tmp 185) (Operand.tmp 186), type := 0, pos := "orders.go:189", after := #[{ on := 27, ground := Ground.data }, { on := 28, ground := Ground.data }, { on := 26, ground := Ground.guard }], guard := some (26, true) }) (v := undef) rfl (by kernel_rfl) (by kernel_rfl) (by kernel_rfl) (fun _ _ _ h => h) (Or.inr ⟨by kernel_rfl, rfl⟩) hS7 ?_
                                try simp only [Act.put, List.setIfInBounds_toArray, List.set_cons_zero, List.set_cons_succ]
                                refine wpAnyH_take (i := 30) (oi := { dst := some 188, op := Op.fieldAddr 31 (Operand.tmp 187) 3, type := 0, pos := "orders.go:189", after := #[{ on := 29, ground := Ground.data }, { on := 26, ground := Ground.guard }], guard := some (26, true) }) (v := undef) rfl (by kernel_rfl) (by kernel_rfl) (by kernel_rfl) (fun _ _ _ h => h) (Or.inr ⟨by kernel_rfl, rfl⟩) hS7 ?_
                                try simp only [Act.put, List.setIfInBounds_toArray, List.set_cons_zero, List.set_cons_succ]
                                refine wpAnyH_take (i := 31) (oi := { dst := some 189, op := Op.load 2 (Operand.tmp 188), type := 2, pos := "orders.go:189", after := #[{ on := 30, ground := Ground.data }, { on := 26, ground := Ground.guard }], guard := some (26, true) }) (v := undef) rfl (by kernel_rfl) (by kernel_rfl) (by kernel_rfl) (fun _ _ _ h => h) (Or.inr ⟨by kernel_rfl, rfl⟩) hS7 ?_
                                try simp only [Act.put, List.setIfInBounds_toArray, List.set_cons_zero, List.set_cons_succ]
                                refine wpAnyH_take (i := 32) (oi := { dst := some 190, op := Op.move (Operand.tmp 10), type := 49, pos := "orders.go:189", after := #[{ on := 26, ground := Ground.guard }], guard := some (26, true) }) (v := undef) rfl (by kernel_rfl) (by kernel_rfl) (by kernel_rfl) (fun _ _ _ h => h) (Or.inr ⟨by kernel_rfl, rfl⟩) hS7 ?_
                                try simp only [Act.put, List.setIfInBounds_toArray, List.set_cons_zero, List.set_cons_succ]
                                refine wpAnyH_take (i := 33) (oi := { dst := some 191, op := Op.move (Operand.tmp 11), type := 3, pos := "orders.go:189", after := #[{ on := 26, ground := Ground.guard }], guard := some (26, true) }) (v := undef) rfl (by kernel_rfl) (by kernel_rfl) (by kernel_rfl) (fun _ _ _ h => h) (Or.inr ⟨by kernel_rfl, rfl⟩) hS7 ?_
                                try simp only [Act.put, List.setIfInBounds_toArray, List.set_cons_zero, List.set_cons_succ]
                                refine wpAnyH_take (i := 34) (oi := { dst := some 192, op := Op.indexAddr 49 (Operand.tmp 190) (Operand.tmp 191), type := 0, pos := "orders.go:189", after := #[{ on := 32, ground := Ground.data }, { on := 33, ground := Ground.data }, { on := 26, ground := Ground.guard }], guard := some (26, true) }) (v := undef) rfl (by kernel_rfl) (by kernel_rfl) (by kernel_rfl) (fun _ _ _ h => h) (Or.inr ⟨by kernel_rfl, rfl⟩) hS7 ?_
                                try simp only [Act.put, List.setIfInBounds_toArray, List.set_cons_zero, List.set_cons_succ]
                                refine wpAnyH_take (i := 35) (oi := { dst := some 193, op := Op.fieldAddr 31 (Operand.tmp 192) 3, type := 0, pos := "orders.go:189", after := #[{ on := 34, ground := Ground.data }, { on := 26, ground := Ground.guard }], guard := some (26, true) }) (v := undef) rfl (by kernel_rfl) (by kernel_rfl) (by kernel_rfl) (fun _ _ _ h => h) (Or.inr ⟨by kernel_rfl, rfl⟩) hS7 ?_
                                try simp only [Act.put, List.setIfInBounds_toArray, List.set_cons_zero, List.set_cons_succ]
                                refine wpAnyH_take (i := 36) (oi := { dst := some 194, op := Op.load 2 (Operand.tmp 193), type := 2, pos := "orders.go:189", after := #[{ on := 35, ground := Ground.data }, { on := 26, ground := Ground.guard }], guard := some (26, true) }) (v := undef) rfl (by kernel_rfl) (by kernel_rfl) (by kernel_rfl) (fun _ _ _ h => h) (Or.inr ⟨by kernel_rfl, rfl⟩) hS7 ?_
                                try simp only [Act.put, List.setIfInBounds_toArray, List.set_cons_zero, List.set_cons_succ]
                                refine wpAnyH_take (i := 37) (oi := { dst := some 195, op := Op.binOp BinOp.eql 2 (Operand.tmp 189) (Operand.tmp 194) 2, type := 4, pos := "orders.go:189", after := #[{ on := 31, ground := Ground.data }, { on := 36, ground := Ground.data }, { on := 26, ground := Ground.guard }], guard := some (26, true) }) (v := undef) rfl (by kernel_rfl) (by kernel_rfl) (by kernel_rfl) (fun _ _ _ h => h) (Or.inr ⟨by kernel_rfl, rfl⟩) hS7 ?_
                                try simp only [Act.put, List.setIfInBounds_toArray, List.set_cons_zero, List.set_cons_succ]
                                refine wpAnyH_take (i := 38) (oi := { dst := some 196, op := Op.pick (Operand.tmp 184) (Operand.tmp 195) (Operand.const (Value.bool false)), type := 4, pos := "orders.go:189", after := #[{ on := 26, ground := Ground.data }, { on := 37, ground := Ground.data }, { on := 1, ground := Ground.guard }], guard := some (1, false) }) (v := ?v16) rfl (by kernel_rfl) (by kernel_rfl) (by kernel_rfl) (fun _ _ _ h => h) (Or.inl ⟨by rfl, ?hy16⟩) hS7 ?rest16
                                case hy16 => (intro w' hSw; obtain ⟨x0, x1, x2, x3, x4, x5⟩ := HCY.out _ hSw; go_simp; try with_reducible rfl)
                                try simp only [Act.put, List.setIfInBounds_toArray, List.set_cons_zero, List.set_cons_succ]
                                refine wpAnyH_take (i := 39) (oi := { dst := some 197, op := Op.pick (Operand.tmp 159) (Operand.const (Value.bool true)) (Operand.tmp 196), type := 4, pos := "orders.go:189", after := #[{ on := 1, ground := Ground.data }, { on := 38, ground := Ground.data }], guard := none }) (v := ?v17) rfl (by kernel_rfl) (by kernel_rfl) (by kernel_rfl) (fun _ _ _ h => h) (Or.inl ⟨by rfl, ?hy17⟩) hS7 ?rest17
                                case hy17 => (intro w' hSw; obtain ⟨x0, x1, x2, x3, x4, x5⟩ := HCY.out _ hSw; go_simp; try with_reducible rfl)
                                try simp only [Act.put, List.setIfInBounds_toArray, List.set_cons_zero, List.set_cons_succ]
                                first
                                  | refine wpAnyH_take (i := 40) (oi := { dst := some 12, op := Op.assign (Operand.tmp 197), type := 4, pos := "orders.go:189", after := #[{ on := 39, ground := Ground.data }, { on := 26, ground := Ground.chain }, { on := 0, ground := Ground.phase }, { on := 1, ground := Ground.phase }, { on := 2, ground := Ground.phase }, { on := 3, ground := Ground.phase }, { on := 4, ground := Ground.phase }, { on := 5, ground := Ground.phase }, { on := 6, ground := Ground.phase }, { on := 7, ground := Ground.phase }, { on := 8, ground := Ground.phase }, { on := 9, ground := Ground.phase }, { on := 10, ground := Ground.phase }, { on := 11, ground := Ground.phase }, { on := 12, ground := Ground.phase }, { on := 13, ground := Ground.phase }, { on := 14, ground := Ground.phase }, { on := 15, ground := Ground.phase }, { on := 16, ground := Ground.phase }, { on := 17, ground := Ground.phase }, { on := 18, ground := Ground.phase }, { on := 19, ground := Ground.phase }, { on := 20, ground := Ground.phase }, { on := 21, ground := Ground.phase }, { on := 22, ground := Ground.phase }, { on := 23, ground := Ground.phase }, { on := 24, ground := Ground.phase }, { on := 25, ground := Ground.phase }, { on := 26, ground := Ground.phase }, { on := 27, ground := Ground.phase }, { on := 28, ground := Ground.phase }, { on := 29, ground := Ground.phase }, { on := 30, ground := Ground.phase }, { on := 31, ground := Ground.phase }, { on := 32, ground := Ground.phase }, { on := 33, ground := Ground.phase }, { on := 34, ground := Ground.phase }, { on := 35, ground := Ground.phase }, { on := 36, ground := Ground.phase }, { on := 37, ground := Ground.phase }, { on := 38, ground := Ground.phase }, { on := 39, ground := Ground.phase }], guard := none }) (v := ?v18) rfl (by kernel_rfl) (by kernel_rfl) (by kernel_rfl) (fun _ _ _ h => h) (Or.inl ⟨by rfl, ?hy18⟩) hS7 ?rest18
                                  | refine wpAnyH_take (i := 40) (oi := { dst := some 12, op := Op.assign (Operand.tmp 197), type := 4, pos := "orders.go:189", after := #[{ on := 39, ground := Ground.data }, { on := 26, ground := Ground.chain }, { on := 0, ground := Ground.phase }, { on := 1, ground := Ground.phase }, { on := 2, ground := Ground.phase }, { on := 3, ground := Ground.phase }, { on := 4, ground := Ground.phase }, { on := 5, ground := Ground.phase }, { on := 6, ground := Ground.phase }, { on := 7, ground := Ground.phase }, { on := 8, ground := Ground.phase }, { on := 9, ground := Ground.phase }, { on := 10, ground := Ground.phase }, { on := 11, ground := Ground.phase }, { on := 12, ground := Ground.phase }, { on := 13, ground := Ground.phase }, { on := 14, ground := Ground.phase }, { on := 15, ground := Ground.phase }, { on := 16, ground := Ground.phase }, { on := 17, ground := Ground.phase }, { on := 18, ground := Ground.phase }, { on := 19, ground := Ground.phase }, { on := 20, ground := Ground.phase }, { on := 21, ground := Ground.phase }, { on := 22, ground := Ground.phase }, { on := 23, ground := Ground.phase }, { on := 24, ground := Ground.phase }, { on := 25, ground := Ground.phase }, { on := 27, ground := Ground.phase }, { on := 28, ground := Ground.phase }, { on := 29, ground := Ground.phase }, { on := 30, ground := Ground.phase }, { on := 31, ground := Ground.phase }, { on := 32, ground := Ground.phase }, { on := 33, ground := Ground.phase }, { on := 34, ground := Ground.phase }, { on := 35, ground := Ground.phase }, { on := 36, ground := Ground.phase }, { on := 37, ground := Ground.phase }, { on := 38, ground := Ground.phase }], guard := none }) (v := ?v18) rfl (by kernel_rfl) (by kernel_rfl) (by kernel_rfl) (fun _ _ _ h => h) (Or.inl ⟨by rfl, ?hy18⟩) hS7 ?rest18
                                  | refine wpAnyH_take (i := 40) (oi := { dst := some 12, op := Op.assign (Operand.tmp 197), type := 4, pos := "orders.go:189", after := #[{ on := 39, ground := Ground.data }, { on := 26, ground := Ground.chain }, { on := 0, ground := Ground.phase }, { on := 1, ground := Ground.phase }, { on := 2, ground := Ground.phase }, { on := 3, ground := Ground.phase }, { on := 4, ground := Ground.phase }, { on := 5, ground := Ground.phase }, { on := 6, ground := Ground.phase }, { on := 7, ground := Ground.phase }, { on := 8, ground := Ground.phase }, { on := 9, ground := Ground.phase }, { on := 10, ground := Ground.phase }, { on := 11, ground := Ground.phase }, { on := 12, ground := Ground.phase }, { on := 13, ground := Ground.phase }, { on := 14, ground := Ground.phase }, { on := 15, ground := Ground.phase }, { on := 16, ground := Ground.phase }, { on := 17, ground := Ground.phase }, { on := 18, ground := Ground.phase }, { on := 19, ground := Ground.phase }, { on := 20, ground := Ground.phase }, { on := 21, ground := Ground.phase }, { on := 22, ground := Ground.phase }, { on := 23, ground := Ground.phase }, { on := 24, ground := Ground.phase }, { on := 25, ground := Ground.phase }, { on := 26, ground := Ground.phase }, { on := 27, ground := Ground.phase }, { on := 28, ground := Ground.phase }, { on := 29, ground := Ground.phase }, { on := 30, ground := Ground.phase }, { on := 31, ground := Ground.phase }, { on := 32, ground := Ground.phase }, { on := 33, ground := Ground.phase }, { on := 34, ground := Ground.phase }, { on := 35, ground := Ground.phase }, { on := 36, ground := Ground.phase }, { on := 37, ground := Ground.phase }, { on := 38, ground := Ground.phase }], guard := none }) (v := ?v18) rfl (by kernel_rfl) (by kernel_rfl) (by kernel_rfl) (fun _ _ _ h => h) (Or.inl ⟨by rfl, ?hy18⟩) hS7 ?rest18
                                  | refine wpAnyH_take (i := 40) (oi := { dst := some 12, op := Op.assign (Operand.tmp 197), type := 4, pos := "orders.go:189", after := #[{ on := 39, ground := Ground.data }, { on := 26, ground := Ground.chain }, { on := 0, ground := Ground.phase }, { on := 1, ground := Ground.phase }, { on := 2, ground := Ground.phase }, { on := 3, ground := Ground.phase }, { on := 4, ground := Ground.phase }, { on := 5, ground := Ground.phase }, { on := 6, ground := Ground.phase }, { on := 7, ground := Ground.phase }, { on := 8, ground := Ground.phase }, { on := 9, ground := Ground.phase }, { on := 10, ground := Ground.phase }, { on := 11, ground := Ground.phase }, { on := 12, ground := Ground.phase }, { on := 13, ground := Ground.phase }, { on := 14, ground := Ground.phase }, { on := 15, ground := Ground.phase }, { on := 16, ground := Ground.phase }, { on := 17, ground := Ground.phase }, { on := 18, ground := Ground.phase }, { on := 19, ground := Ground.phase }, { on := 20, ground := Ground.phase }, { on := 21, ground := Ground.phase }, { on := 22, ground := Ground.phase }, { on := 23, ground := Ground.phase }, { on := 24, ground := Ground.phase }, { on := 25, ground := Ground.phase }, { on := 27, ground := Ground.phase }, { on := 28, ground := Ground.phase }, { on := 29, ground := Ground.phase }, { on := 30, ground := Ground.phase }, { on := 31, ground := Ground.phase }, { on := 32, ground := Ground.phase }, { on := 33, ground := Ground.phase }, { on := 34, ground := Ground.phase }, { on := 35, ground := Ground.phase }, { on := 36, ground := Ground.phase }, { on := 37, ground := Ground.phase }, { on := 38, ground := Ground.phase }, { on := 39, ground := Ground.phase }], guard := none }) (v := ?v18) rfl (by kernel_rfl) (by kernel_rfl) (by kernel_rfl) (fun _ _ _ h => h) (Or.inl ⟨by rfl, ?hy18⟩) hS7 ?rest18
                                  | refine wpAnyH_take (i := 40) (oi := { dst := some 12, op := Op.assign (Operand.tmp 197), type := 4, pos := "orders.go:189", after := #[{ on := 39, ground := Ground.data }, { on := 26, ground := Ground.chain }, { on := 0, ground := Ground.phase }, { on := 1, ground := Ground.phase }, { on := 2, ground := Ground.phase }, { on := 3, ground := Ground.phase }, { on := 4, ground := Ground.phase }, { on := 5, ground := Ground.phase }, { on := 6, ground := Ground.phase }, { on := 7, ground := Ground.phase }, { on := 8, ground := Ground.phase }, { on := 9, ground := Ground.phase }, { on := 10, ground := Ground.phase }, { on := 11, ground := Ground.phase }, { on := 13, ground := Ground.phase }, { on := 14, ground := Ground.phase }, { on := 15, ground := Ground.phase }, { on := 16, ground := Ground.phase }, { on := 17, ground := Ground.phase }, { on := 18, ground := Ground.phase }, { on := 19, ground := Ground.phase }, { on := 20, ground := Ground.phase }, { on := 21, ground := Ground.phase }, { on := 22, ground := Ground.phase }, { on := 23, ground := Ground.phase }, { on := 24, ground := Ground.phase }, { on := 25, ground := Ground.phase }, { on := 27, ground := Ground.phase }, { on := 28, ground := Ground.phase }, { on := 29, ground := Ground.phase }, { on := 30, ground := Ground.phase }, { on := 31, ground := Ground.phase }, { on := 32, ground := Ground.phase }, { on := 33, ground := Ground.phase }, { on := 34, ground := Ground.phase }, { on := 35, ground := Ground.phase }, { on := 36, ground := Ground.phase }, { on := 37, ground := Ground.phase }, { on := 38, ground := Ground.phase }], guard := none }) (v := ?v18) rfl (by kernel_rfl) (by kernel_rfl) (by kernel_rfl) (fun _ _ _ h => h) (Or.inl ⟨by rfl, ?hy18⟩) hS7 ?rest18
                                case hy18 => (intro w' hSw; obtain ⟨x0, x1, x2, x3, x4, x5⟩ := HCY.out _ hSw; go_simp; try with_reducible rfl)
                                try simp only [Act.put, List.setIfInBounds_toArray, List.set_cons_zero, List.set_cons_succ]
                                refine wpAnyH_done (by kernel_rfl) ?_ _
                                refine NoPanic.normal ?_
                                have HS7 := Aside0.mk hS7
                                clear hS7
                                go_wp2_with fail
                                go_roundg g2
                                case measure => omega
                                case rel => exact ⟨k + 1, false, rfl, by go_num, by omega, by omega, ⟨HNX.out _ (by simp [ze])⟩, ⟨below_step HBK.out HB7.out⟩⟩
                              · exact AllReadyH.nil
                           | true =>
                             cases zs : (x.s == y.s) with
                             | false =>
                               as_aux_lemma =>
                                clear hS0
                                have hb0 := HBRD.out
                                refine wp_region_noPanic ?_
                                refine wp_region_held_drew (S := fun w' => Below wr.heap.size wr w') (by kernel_rfl) hb0 (fun hS0 => ?_)
                                refine wpAnyH_take (i := 0) (oi := { dst := some 158, op := Op.move (Operand.tmp 12), type := 4, pos := "orders.go:189", after := #[], guard := none }) (v := ?v19) rfl (by kernel_rfl) (by kernel_rfl) (by kernel_rfl) (fun _ _ _ h => h) (Or.inl ⟨by rfl, ?hy19⟩) hS0 ?rest19
                                case hy19 => (intro w' hSw; obtain ⟨x0, x1, x2, x3, x4, x5⟩ := HCY.out _ hSw; go_simp; try with_reducible rfl)
                                try simp only [Act.put, List.setIfInBounds_toArray, List.set_cons_zero, List.set_cons_succ]
                                refine wpAnyH_take (i := 1) (oi := { dst := some 159, op := Op.move (Operand.tmp 158), type := 4, pos := "orders.go:189", after := #[{ on := 0, ground := Ground.data }], guard := none }) (v := ?v20) rfl (by kernel_rfl) (by kernel_rfl) (by kernel_rfl) (fun _ _ _ h => h) (Or.inl ⟨by rfl, ?hy20⟩) hS0 ?rest20
                                case hy20 => (intro w' hSw; obtain ⟨x0, x1, x2, x3, x4, x5⟩ := HCY.out _ hSw; go_simp; try with_reducible rfl)
                                try simp only [Act.put, List.setIfInBounds_toArray, List.set_cons_zero, List.set_cons_succ]
                                refine wpAnyH_take (i := 2) (oi := { dst := some 160, op := Op.move (Operand.tmp 0), type := 49, pos := "orders.go:189", after := #[{ on := 1, ground := Ground.guard }], guard := some (1, false) }) (v := ?v21) rfl (by kernel_rfl) (by kernel_rfl) (by kernel_rfl) (fun _ _ _ h => h) (Or.inl ⟨by rfl, ?hy21⟩) hS0 ?rest21
                                case hy21 => (intro w' hSw; obtain ⟨x0, x1, x2, x3, x4, x5⟩ := HCY.out _ hSw; go_simp; try with_reducible rfl)
                                try simp only [Act.put, List.setIfInBounds_toArray, List.set_cons_zero, List.set_cons_succ]
                                refine wpAnyH_take (i := 3) (oi := { dst := some 161, op := Op.move (Operand.tmp 13), type := 3, pos := "orders.go:189", after := #[{ on := 1, ground := Ground.guard }], guard := some (1, false) }) (v := ?v22) rfl (by kernel_rfl) (by kernel_rfl) (by kernel_rfl) (fun _ _ _ h => h) (Or.inl ⟨by rfl, ?hy22⟩) hS0 ?rest22
                                case hy22 => (intro w' hSw; obtain ⟨x0, x1, x2, x3, x4, x5⟩ := HCY.out _ hSw; go_simp; try with_reducible rfl)
                                try simp only [Act.put, List.setIfInBounds_toArray, List.set_cons_zero, List.set_cons_succ]
                                refine wpAnyH_take (i := 4) (oi := { dst := some 162, op := Op.indexAddr 49 (Operand.tmp 160) (Operand.tmp 161), type := 0, pos := "orders.go:189", after := #[{ on := 2, ground := Ground.data }, { on := 3, ground := Ground.data }, { on := 1, ground := Ground.guard }], guard := some (1, false) }) (v := ?v23) rfl (by kernel_rfl) (by kernel_rfl) (by kernel_rfl) (fun _ _ _ h => h) (Or.inl ⟨by rfl, ?hy23⟩) hS0 ?rest23
                                case hy23 => (intro w' hSw; obtain ⟨x0, x1, x2, x3, x4, x5⟩ := HCY.out _ hSw; go_simp; try with_reducible rfl)
                                try simp only [Act.put, List.setIfInBounds_toArray, List.set_cons_zero, List.set_cons_succ]
                                refine wpAnyH_take (i := 5) (oi := { dst := some 163, op := Op.fieldAddr 31 (Operand.tmp 162) 0, type := 0, pos := "orders.go:189", after := #[{ on := 4, ground := Ground.data }, { on := 1, ground := Ground.guard }], guard := some (1, false) }) (v := ?v24) rfl (by kernel_rfl) (by kernel_rfl) (by kernel_rfl) (fun _ _ _ h => h) (Or.inl ⟨by rfl, ?hy24⟩) hS0 ?rest24
                                case hy24 => (intro w' hSw; obtain ⟨x0, x1, x2, x3, x4, x5⟩ := HCY.out _ hSw; go_simp; try with_reducible rfl)
                                try simp only [Act.put, List.setIfInBounds_toArray, List.set_cons_zero, List.set_cons_succ]
                                refine wpAnyH_take (i := 6) (oi := { dst := some 164, op := Op.load 22 (Operand.tmp 163), type := 22, pos := "orders.go:189", after := #[{ on := 5, ground := Ground.data }, { on := 1, ground := Ground.guard }], guard := some (1, false) }) (v := ?v25) rfl (by kernel_rfl) (by kernel_rfl) (by kernel_rfl) (fun _ _ _ h => h) (Or.inl ⟨by rfl, ?hy25⟩) hS0 ?rest25
                                case hy25 => (intro w' hSw; obtain ⟨x0, x1, x2, x3, x4, x5⟩ := HCY.out _ hSw; go_simp; try with_reducible rfl)
                                try simp only [Act.put, List.setIfInBounds_toArray, List.set_cons_zero, List.set_cons_succ]
                                refine wpAnyH_take (i := 7) (oi := { dst := some 165, op := Op.move (Operand.tmp 10), type := 49, pos := "orders.go:189", after := #[{ on := 1, ground := Ground.guard }], guard := some (1, false) }) (v := ?v26) rfl (by kernel_rfl) (by kernel_rfl) (by kernel_rfl) (fun _ _ _ h => h) (Or.inl ⟨by rfl, ?hy26⟩) hS0 ?rest26
                                case hy26 => (intro w' hSw; obtain ⟨x0, x1, x2, x3, x4, x5⟩ := HCY.out _ hSw; go_simp; try with_reducible rfl)
                                try simp only [Act.put, List.setIfInBounds_toArray, List.set_cons_zero, List.set_cons_succ]
                                refine wpAnyH_take (i := 8) (oi := { dst := some 166, op := Op.move (Operand.tmp 11), type := 3, pos := "orders.go:189", after := #[{ on := 1, ground := Ground.guard }], guard := some (1, false) }) (v := ?v27) rfl (by kernel_rfl) (by kernel_rfl) (by kernel_rfl) (fun _ _ _ h => h) (Or.inl ⟨by rfl, ?hy27⟩) hS0 ?rest27
                                case hy27 => (intro w' hSw; obtain ⟨x0, x1, x2, x3, x4, x5⟩ := HCY.out _ hSw; go_simp; try with_reducible rfl)
                                try simp only [Act.put, List.setIfInBounds_toArray, List.set_cons_zero, List.set_cons_succ]
                                refine wpAnyH_take (i := 9) (oi := { dst := some 167, op := Op.indexAddr 49 (Operand.tmp 165) (Operand.tmp 166), type := 0, pos := "orders.go:189", after := #[{ on := 7, ground := Ground.data }, { on := 8, ground := Ground.data }, { on := 1, ground := Ground.guard }], guard := some (1, false) }) (v := ?v28) rfl (by kernel_rfl) (by kernel_rfl) (by kernel_rfl) (fun _ _ _ h => h) (Or.inl ⟨by rfl, ?hy28⟩) hS0 ?rest28
                                case hy28 => (intro w' hSw; obtain ⟨x0, x1, x2, x3, x4, x5⟩ := HCY.out _ hSw; go_simp; try with_reducible rfl)
                                try simp only [Act.put, List.setIfInBounds_toArray, List.set_cons_zero, List.set_cons_succ]
                                refine wpAnyH_take (i := 10) (oi := { dst := some 168, op := Op.fieldAddr 31 (Operand.tmp 167) 0, type := 0, pos := "orders.go:189", after := #[{ on := 9, ground := Ground.data }, { on := 1, ground := Ground.guard }], guard := some (1, false) }) (v := ?v29) rfl (by kernel_rfl) (by kernel_rfl) (by kernel_rfl) (fun _ _ _ h => h) (Or.inl ⟨by rfl, ?hy29⟩) hS0 ?rest29
                                case hy29 => (intro w' hSw; obtain ⟨x0, x1, x2, x3, x4, x5⟩ := HCY.out _ hSw; go_simp; try with_reducible rfl)
                                try simp only [Act.put, List.setIfInBounds_toArray, List.set_cons_zero, List.set_cons_succ]
                                refine wpAnyH_take (i := 11) (oi := { dst := some 169, op := Op.load 22 (Operand.tmp 168), type := 22, pos := "orders.go:189", after := #[{ on := 10, ground := Ground.data }, { on := 1, ground := Ground.guard }], guard := some (1, false) }) (v := ?v30) rfl (by kernel_rfl) (by kernel_rfl) (by kernel_rfl) (fun _ _ _ h => h) (Or.inl ⟨by rfl, ?hy30⟩) hS0 ?rest30
                                case hy30 => (intro w' hSw; obtain ⟨x0, x1, x2, x3, x4, x5⟩ := HCY.out _ hSw; go_simp; try with_reducible rfl)
                                try simp only [Act.put, List.setIfInBounds_toArray, List.set_cons_zero, List.set_cons_succ]
                                refine wpAnyH_ready (rs := [12]) (by kernel_rfl) (by simp) ?_
                                refine AllReadyH.cons (o := { dst := some 170, op := Op.call { callee := Callee.value (Operand.func 14), args := #[Operand.tmp 164, Operand.tmp 169], argTypes := #[22, 22] }, type := 4, pos := "orders.go:189", after := #[{ on := 6, ground := Ground.data }, { on := 11, ground := Ground.data }, { on := 1, ground := Ground.chain }, { on := 1, ground := Ground.guard }], guard := some (1, false) }) rfl (fun K hK => ?_) ?_
                                ·
                                  go_simp
                                  go_at_call 14
                                  refine Calls.mono (specSame_calls x.a y.a x.cap y.cap x.la y.la _ (HLX.out.1.next HBRD.out) (HLY.out.1.next (below_step HBK.out HBRD.out)) HLX.out.2 HLY.out.2) ?_
                                  rintro e w7 ⟨rfl, hb7⟩
                                  rw [ze]
                                  have HB7 := Aside0.mk (below_step HBRD.out hb7)
                                  clear hb7
                                  refine hK.out _ _ HB7.out (fun hS7 => ?_)
                                  try simp only [Act.put, List.setIfInBounds_toArray, List.set_cons_zero, List.set_cons_succ]
                                  refine wpAnyH_take (i := 13) (oi := { dst := some 171, op := Op.move (Operand.tmp 170), type := 4, pos := "orders.go:189", after := #[{ on := 12, ground := Ground.data }, { on := 12, ground := Ground.chain }, { on := 1, ground := Ground.guard }], guard := some (1, false) }) (v := ?v31) rfl (by kernel_rfl) (by kernel_rfl) (by kernel_rfl) (fun _ _ _ h => h) (Or.inl ⟨by rfl, ?hy31⟩) hS7 ?rest31
                                  case hy31 => (intro w' hSw; obtain ⟨x0, x1, x2, x3, x4, x5⟩ := HCY.out _ hSw; go_simp; try with_reducible rfl)
                                  try simp only [Act.put, List.setIfInBounds_toArray, List.set_cons_zero, List.set_cons_succ]
                                  refine wpAnyH_take (i := 14) (oi := { dst := some 172, op := Op.move (Operand.tmp 0), type := 49, pos := "orders.go:189", after := #[{ on := 13, ground := Ground.guard }], guard := some (13, true) }) (v := ?v32) rfl (by kernel_rfl) (by kernel_rfl) (by kernel_rfl) (fun _ _ _ h => h) (Or.inl ⟨by rfl, ?hy32⟩) hS7 ?rest32
                                  case hy32 => (intro w' hSw; obtain ⟨x0, x1, x2, x3, x4, x5⟩ := HCY.out _ hSw; go_simp; try with_reducible rfl)
                                  try simp only [Act.put, List.setIfInBounds_toArray, List.set_cons_zero, List.set_cons_succ]
                                  refine wpAnyH_take (i := 15) (oi := { dst := some 173, op := Op.move (Operand.tmp 13), type := 3, pos := "orders.go:189", after := #[{ on := 13, ground := Ground.guard }], guard := some (13, true) }) (v := ?v33) rfl (by kernel_rfl) (by kernel_rfl) (by kernel_rfl) (fun _ _ _ h => h) (Or.inl ⟨by rfl, ?hy33⟩) hS7 ?rest33
                                  case hy33 => (intro w' hSw; obtain ⟨x0, x1, x2, x3, x4, x5⟩ := HCY.out _ hSw; go_simp; try with_reducible rfl)
                                  try simp only [Act.put, List.setIfInBounds_toArray, List.set_cons_zero, List.set_cons_succ]
                                  refine wpAnyH_take (i := 16) (oi := { dst := some 174, op := Op.indexAddr 49 (Operand.tmp 172) (Operand.tmp 173), type := 0, pos := "orders.go:189", after := #[{ on := 14, ground := Ground.data }, { on := 15, ground := Ground.data }, { on := 13, ground := Ground.guard }], guard := some (13, true) }) (v := ?v34) rfl (by kernel_rfl) (by kernel_rfl) (by kernel_rfl) (fun _ _ _ h => h) (Or.inl ⟨by rfl, ?hy34⟩) hS7 ?rest34
                                  case hy34 => (intro w' hSw; obtain ⟨x0, x1, x2, x3, x4, x5⟩ := HCY.out _ hSw; go_simp; try with_reducible rfl)
                                  try simp only [Act.put, List.setIfInBounds_toArray, List.set_cons_zero, List.set_cons_succ]
                                  refine wpAnyH_take (i := 17) (oi := { dst := some 175, op := Op.fieldAddr 31 (Operand.tmp 174) 2, type := 0, pos := "orders.go:189", after := #[{ on := 16, ground := Ground.data }, { on := 13, ground := Ground.guard }], guard := some (13, true) }) (v := ?v35) rfl (by kernel_rfl) (by kernel_rfl) (by kernel_rfl) (fun _ _ _ h => h) (Or.inl ⟨by rfl, ?hy35⟩) hS7 ?rest35
                                  case hy35 => (intro w' hSw; obtain ⟨x0, x1, x2, x3, x4, x5⟩ := HCY.out _ hSw; go_simp; try with_reducible rfl)
                                  try simp only [Act.put, List.setIfInBounds_toArray, List.set_cons_zero, List.set_cons_succ]
                                  refine wpAnyH_take (i := 18) (oi := { dst := some 176, op := Op.load 2 (Operand.tmp 175), type := 2, pos := "orders.go:189", after := #[{ on := 17, ground := Ground.data }, { on := 13, ground := Ground.guard }], guard := some (13, true) }) (v := ?v36) rfl (by kernel_rfl) (by kernel_rfl) (by kernel_rfl) (fun _ _ _ h => h) (Or.inl ⟨by rfl, ?hy36⟩) hS7 ?rest36
                                  case hy36 => (intro w' hSw; obtain ⟨x0, x1, x2, x3, x4, x5⟩ := HCY.out _ hSw; go_simp; try with_reducible rfl)
                                  try simp only [Act.put, List.setIfInBounds_toArray, List.set_cons_zero, List.set_cons_succ]
                                  refine wpAnyH_take (i := 19) (oi := { dst := some 177, op := Op.move (Operand.tmp 10), type := 49, pos := "orders.go:189", after := #[{ on := 13, ground := Ground.guard }], guard := some (13, true) }) (v := ?v37) rfl (by kernel_rfl) (by kernel_rfl) (by kernel_rfl) (fun _ _ _ h => h) (Or.inl ⟨by rfl, ?hy37⟩) hS7 ?rest37
                                  case hy37 => (intro w' hSw; obtain ⟨x0, x1, x2, x3, x4, x5⟩ := HCY.out _ hSw; go_simp; try with_reducible rfl)
                                  try simp only [Act.put, List.setIfInBounds_toArray, List.set_cons_zero, List.set_cons_succ]
                                  refine wpAnyH_take (i := 20) (oi := { dst := some 178, op := Op.move (Operand.tmp 11), type := 3, pos := "orders.go:189", after := #[{ on := 13, ground := Ground.guard }], guard := some (13, true) }) (v := ?v38) rfl (by kernel_rfl) (by kernel_rfl) (by kernel_rfl) (fun _ _ _ h => h) (Or.inl ⟨by rfl, ?hy38⟩) hS7 ?rest38
                                  case hy38 => (intro w' hSw; obtain ⟨x0, x1, x2, x3, x4, x5⟩ := HCY.out _ hSw; go_simp; try with_reducible rfl)
                                  try simp only [Act.put, List.setIfInBounds_toArray, List.set_cons_zero, List.set_cons_succ]
                                  refine wpAnyH_take (i := 21) (oi := { dst := some 179, op := Op.indexAddr 49 (Operand.tmp 177) (Operand.tmp 178), type := 0, pos := "orders.go:189", after := #[{ on := 19, ground := Ground.data }, { on := 20, ground := Ground.data }, { on := 13, ground := Ground.guard }], guard := some (13, true) }) (v := ?v39) rfl (by kernel_rfl) (by kernel_rfl) (by kernel_rfl) (fun _ _ _ h => h) (Or.inl ⟨by rfl, ?hy39⟩) hS7 ?rest39
                                  case hy39 => (intro w' hSw; obtain ⟨x0, x1, x2, x3, x4, x5⟩ := HCY.out _ hSw; go_simp; try with_reducible rfl)
                                  try simp only [Act.put, List.setIfInBounds_toArray, List.set_cons_zero, List.set_cons_succ]
                                  refine wpAnyH_take (i := 22) (oi := { dst := some 180, op := Op.fieldAddr 31 (Operand.tmp 179) 2, type := 0, pos := "orders.go:189", after := #[{ on := 21, ground := Ground.data }, { on := 13, ground := Ground.guard }], guard := some (13, true) }) (v := ?v40) rfl (by kernel_rfl) (by kernel_rfl) (by kernel_rfl) (fun _ _ _ h => h) (Or.inl ⟨by rfl, ?hy40⟩) hS7 ?rest40
                                  case hy40 => (intro w' hSw; obtain ⟨x0, x1, x2, x3, x4, x5⟩ := HCY.out _ hSw; go_simp; try with_reducible rfl)
                                  try simp only [Act.put, List.setIfInBounds_toArray, List.set_cons_zero, List.set_cons_succ]
                                  refine wpAnyH_take (i := 23) (oi := { dst := some 181, op := Op.load 2 (Operand.tmp 180), type := 2, pos := "orders.go:189", after := #[{ on := 22, ground := Ground.data }, { on := 13, ground := Ground.guard }], guard := some (13, true) }) (v := ?v41) rfl (by kernel_rfl) (by kernel_rfl) (by kernel_rfl) (fun _ _ _ h => h) (Or.inl ⟨by rfl, ?hy41⟩) hS7 ?rest41
                                  case hy41 => (intro w' hSw; obtain ⟨x0, x1, x2, x3, x4, x5⟩ := HCY.out _ hSw; go_simp; try with_reducible rfl)
                                  try simp only [Act.put, List.setIfInBounds_toArray, List.set_cons_zero, List.set_cons_succ]
                                  refine wpAnyH_take (i := 24) (oi := { dst := some 182, op := Op.binOp BinOp.eql 2 (Operand.tmp 176) (Operand.tmp 181) 2, type := 4, pos := "orders.go:189", after := #[{ on := 18, ground := Ground.data }, { on := 23, ground := Ground.data }, { on := 13, ground := Ground.guard }], guard := some (13, true) }) (v := ?v42) rfl (by kernel_rfl) (by kernel_rfl) (by kernel_rfl) (fun _ _ _ h => h) (Or.inl ⟨by rfl, ?hy42⟩) hS7 ?rest42
                                  case hy42 => (intro w' hSw; obtain ⟨x0, x1, x2, x3, x4, x5⟩ := HCY.out _ hSw; go_simp; try with_reducible rfl)
                                  try simp only [Act.put, List.setIfInBounds_toArray, List.set_cons_zero, List.set_cons_succ]
                                  refine wpAnyH_take (i := 25) (oi := { dst := some 183, op := Op.pick (Operand.tmp 171) (Operand.tmp 182) (Operand.const (Value.bool false)), type := 4, pos := "orders.go:189", after := #[{ on := 13, ground := Ground.data }, { on := 24, ground := Ground.data }, { on := 1, ground := Ground.guard }], guard := some (1, false) }) (v := ?v43) rfl (by kernel_rfl) (by kernel_rfl) (by kernel_rfl) (fun _ _ _ h => h) (Or.inl ⟨by rfl, ?hy43⟩) hS7 ?rest43
                                  case hy43 => (intro w' hSw; obtain ⟨x0, x1, x2, x3, x4, x5⟩ := HCY.out _ hSw; go_simp; try with_reducible rfl)
                                  try simp only [Act.put, List.setIfInBounds_toArray, List.set_cons_zero, List.set_cons_succ]
                                  refine wpAnyH_take (i := 26) (oi := { dst := some 184, op := Op.move (Operand.tmp 183), type := 4, pos := "orders.go:189", after := #[{ on := 25, ground := Ground.data }, { on := 13, ground := Ground.chain }, { on := 1, ground := Ground.guard }], guard := some (1, false) }) (v := ?v44) rfl (by kernel_rfl) (by kernel_rfl) (by kernel_rfl) (fun _ _ _ h => h) (Or.inl ⟨by rfl, ?hy44⟩) hS7 ?rest44
                                  case hy44 => (intro w' hSw; obtain ⟨x0, x1, x2, x3, x4, x5⟩ := HCY.out _ hSw; go_simp; try with_reducible rfl)
                                  try simp only [Act.put, List.setIfInBounds_toArray, List.set_cons_zero, List.set_cons_succ]
                                  refine wpAnyH_take (i := 27) (oi := { dst := some 185, op := Op.move (Operand.tmp 0), type := 49, pos := "orders.go:189", after := #[{ on := 26, ground := Ground.guard }], guard := some (26, true) }) (v := undef) rfl (by kernel_rfl) (by kernel_rfl) (by kernel_rfl) (fun _ _ _ h => h) (Or.inr ⟨by kernel_rfl, rfl⟩) hS7 ?_
                                  try simp only [Act.put, List.setIfInBounds_toArray, List.set_cons_zero, List.set_cons_succ]
                                  refine wpAnyH_take (i := 28) (oi := { dst := some 186, op := Op.move (Operand.tmp 13), type := 3, pos := "orders.go:189", after := #[{ on := 26, ground := Ground.guard }], guard := some (26, true) }) (v := undef) rfl (by kernel_rfl) (by kernel_rfl) (by kernel_rfl) (fun _ _ _ h => h) (Or.inr ⟨by kernel_rfl, rfl⟩) hS7 ?_
                                  try simp only [Act.put, List.setIfInBounds_toArray, List.set_cons_zero, List.set_cons_succ]
                                  refine wpAnyH_take (i := 29) (oi := { dst := some 187, op := Op.indexAddr 49 (Operand.tmp 185) (Operand.tmp 186), type := 0, pos := "orders.go:189", after := #[{ on := 27, ground := Ground.data }, { on := 28, ground := Ground.data }, { on := 26, ground := Ground.guard }], guard := some (26, true) }) (v := undef) rfl (by kernel_rfl) (by kernel_rfl) (by kernel_rfl) (fun _ _ _ h => h) (Or.inr ⟨by kernel_rfl, rfl⟩) hS7 ?_
                                  try simp only [Act.put, List.setIfInBounds_toArray, List.set_cons_zero, List.set_cons_succ]
                                  refine wpAnyH_take (i := 30) (oi := { dst := some 188, op := Op.fieldAddr 31 (Operand.tmp 187) 3, type := 0, pos := "orders.go:189", after := #[{ on := 29, ground := Ground.data }, { on := 26, ground := Ground.guard }], guard := some (26, true) }) (v := undef) rfl (by kernel_rfl) (by kernel_rfl) (by kernel_rfl) (fun _ _ _ h => h) (Or.inr ⟨by kernel_rfl, rfl⟩) hS7 ?_
                                  try simp only [Act.put, List.setIfInBounds_toArray, List.set_cons_zero, List.set_cons_succ]
                                  refine wpAnyH_take (i := 31) (oi := { dst := some 189, op := Op.load 2 (Operand.tmp 188), type := 2, pos := "orders.go:189", after := #[{ on := 30, ground := Ground.data }, { on := 26, ground := Ground.guard }], guard := some (26, true) }) (v := undef) rfl (by kernel_rfl) (by kernel_rfl) (by kernel_rfl) (fun _ _ _ h => h) (Or.inr ⟨by kernel_rfl, rfl⟩) hS7 ?_
                                  try simp only [Act.put, List.setIfInBounds_toArray, List.set_cons_zero, List.set_cons_succ]
                                  refine wpAnyH_take (i := 32) (oi := { dst := some 190, op := Op.move (Operand.tmp 10), type := 49, pos := "orders.go:189", after := #[{ on := 26, ground := Ground.guard }], guard := some (26, true) }) (v := undef) rfl (by kernel_rfl) (by kernel_rfl) (by kernel_rfl) (fun _ _ _ h => h) (Or.inr ⟨by kernel_rfl, rfl⟩) hS7 ?_
                                  try simp only [Act.put, List.setIfInBounds_toArray, List.set_cons_zero, List.set_cons_succ]
                                  refine wpAnyH_take (i := 33) (oi := { dst := some 191, op := Op.move (Operand.tmp 11), type := 3, pos := "orders.go:189", after := #[{ on := 26, ground := Ground.guard }], guard := some (26, true) }) (v := undef) rfl (by kernel_rfl) (by kernel_rfl) (by kernel_rfl) (fun _ _ _ h => h) (Or.inr ⟨by kernel_rfl, rfl⟩) hS7 ?_
                                  try simp only [Act.put, List.setIfInBounds_toArray, List.set_cons_zero, List.set_cons_succ]
                                  refine wpAnyH_take (i := 34) (oi := { dst := some 192, op := Op.indexAddr 49 (Operand.tmp 190) (Operand.tmp 191), type := 0, pos := "orders.go:189", after := #[{ on := 32, ground := Ground.data }, { on := 33, ground := Ground.data }, { on := 26, ground := Ground.guard }], guard := some (26, true) }) (v := undef) rfl (by kernel_rfl) (by kernel_rfl) (by kernel_rfl) (fun _ _ _ h => h) (Or.inr ⟨by kernel_rfl, rfl⟩) hS7 ?_
                                  try simp only [Act.put, List.setIfInBounds_toArray, List.set_cons_zero, List.set_cons_succ]
                                  refine wpAnyH_take (i := 35) (oi := { dst := some 193, op := Op.fieldAddr 31 (Operand.tmp 192) 3, type := 0, pos := "orders.go:189", after := #[{ on := 34, ground := Ground.data }, { on := 26, ground := Ground.guard }], guard := some (26, true) }) (v := undef) rfl (by kernel_rfl) (by kernel_rfl) (by kernel_rfl) (fun _ _ _ h => h) (Or.inr ⟨by kernel_rfl, rfl⟩) hS7 ?_
                                  try simp only [Act.put, List.setIfInBounds_toArray, List.set_cons_zero, List.set_cons_succ]
                                  refine wpAnyH_take (i := 36) (oi := { dst := some 194, op := Op.load 2 (Operand.tmp 193), type := 2, pos := "orders.go:189", after := #[{ on := 35, ground := Ground.data }, { on := 26, ground := Ground.guard }], guard := some (26, true) }) (v := undef) rfl (by kernel_rfl) (by kernel_rfl) (by kernel_rfl) (fun _ _ _ h => h) (Or.inr ⟨by kernel_rfl, rfl⟩) hS7 ?_
                                  try simp only [Act.put, List.setIfInBounds_toArray, List.set_cons_zero, List.set_cons_succ]
                                  refine wpAnyH_take (i := 37) (oi := { dst := some 195, op := Op.binOp BinOp.eql 2 (Operand.tmp 189) (Operand.tmp 194) 2, type := 4, pos := "orders.go:189", after := #[{ on := 31, ground := Ground.data }, { on := 36, ground := Ground.data }, { on := 26, ground := Ground.guard }], guard := some (26, true) }) (v := undef) rfl (by kernel_rfl) (by kernel_rfl) (by kernel_rfl) (fun _ _ _ h => h) (Or.inr ⟨by kernel_rfl, rfl⟩) hS7 ?_
                                  try simp only [Act.put, List.setIfInBounds_toArray, List.set_cons_zero, List.set_cons_succ]
                                  refine wpAnyH_take (i := 38) (oi := { dst := some 196, op := Op.pick (Operand.tmp 184) (Operand.tmp 195) (Operand.const (Value.bool false)), type := 4, pos := "orders.go:189", after := #[{ on := 26, ground := Ground.data }, { on := 37, ground := Ground.data }, { on := 1, ground := Ground.guard }], guard := some (1, false) }) (v := ?v45) rfl (by kernel_rfl) (by kernel_rfl) (by kernel_rfl) (fun _ _ _ h => h) (Or.inl ⟨by rfl, ?hy45⟩) hS7 ?rest45
                                  case hy45 => (intro w' hSw; obtain ⟨x0, x1, x2, x3, x4, x5⟩ := HCY.out _ hSw; go_simp; try with_reducible rfl)
                                  try simp only [Act.put, List.setIfInBounds_toArray, List.set_cons_zero, List.set_cons_succ]
                                  refine wpAnyH_take (i := 39) (oi := { dst := some 197, op := Op.pick (Operand.tmp 159) (Operand.const (Value.bool true)) (Operand.tmp 196), type := 4, pos := "orders.go:189", after := #[{ on := 1, ground := Ground.data }, { on := 38, ground := Ground.data }], guard := none }) (v := ?v46) rfl (by kernel_rfl) (by kernel_rfl) (by kernel_rfl) (fun _ _ _ h => h) (Or.inl ⟨by rfl, ?hy46⟩) hS7 ?rest46
                                  case hy46 => (intro w' hSw; obtain ⟨x0, x1, x2, x3, x4, x5⟩ := HCY.out _ hSw; go_simp; try with_reducible rfl)
                                  try simp only [Act.put, List.setIfInBounds_toArray, List.set_cons_zero, List.set_cons_succ]
                                  first
                                    | refine wpAnyH_take (i := 40) (oi := { dst := some 12, op := Op.assign (Operand.tmp 197), type := 4, pos := "orders.go:189", after := #[{ on := 39, ground := Ground.data }, { on := 26, ground := Ground.chain }, { on := 0, ground := Ground.phase }, { on := 1, ground := Ground.phase }, { on := 2, ground := Ground.phase }, { on := 3, ground := Ground.phase }, { on := 4, ground := Ground.phase }, { on := 5, ground := Ground.phase }, { on := 6, ground := Ground.phase }, { on := 7, ground := Ground.phase }, { on := 8, ground := Ground.phase }, { on := 9, ground := Ground.phase }, { on := 10, ground := Ground.phase }, { on := 11, ground := Ground.phase }, { on := 12, ground := Ground.phase }, { on := 13, ground := Ground.phase }, { on := 14, ground := Ground.phase }, { on := 15, ground := Ground.phase }, { on := 16, ground := Ground.phase }, { on := 17, ground := Ground.phase }, { on := 18, ground := Ground.phase }, { on := 19, ground := Ground.phase }, { on := 20, ground := Ground.phase }, { on := 21, ground := Ground.phase }, { on := 22, ground := Ground.phase }, { on := 23, ground := Ground.phase }, { on := 24, ground := Ground.phase }, { on := 25, ground := Ground.phase }, { on := 26, ground := Ground.phase }, { on := 27, ground := Ground.phase }, { on := 28, ground := Ground.phase }, { on := 29, ground := Ground.phase }, { on := 30, ground := Ground.phase }, { on := 31, ground := Ground.phase }, { on := 32, ground := Ground.phase }, { on := 33, ground := Ground.phase }, { on := 34, ground := Ground.phase }, { on := 35, ground := Ground.phase }, { on := 36, ground := Ground.phase }, { on := 37, ground := Ground.phase }, { on := 38, ground := Ground.phase }, { on := 39, ground := Ground.phase }], guard := none }) (v := ?v47) rfl (by kernel_rfl) (by kernel_rfl) (by kernel_rfl) (fun _ _ _ h => h) (Or.inl ⟨by rfl, ?hy47⟩) hS7 ?rest47
                                    | refine wpAnyH_take (i := 40) (oi := { dst := some 12, op := Op.assign (Operand.tmp 197), type := 4, pos := "orders.go:189", after := #[{ on := 39, ground := Ground.data }, { on := 26, ground := Ground.chain }, { on := 0, ground := Ground.phase }, { on := 1, ground := Ground.phase }, { on := 2, ground := Ground.phase }, { on := 3, ground := Ground.phase }, { on := 4, ground := Ground.phase }, { on := 5, ground := Ground.phase }, { on := 6, ground := Ground.phase }, { on := 7, ground := Ground.phase }, { on := 8, ground := Ground.phase }, { on := 9, ground := Ground.phase }, { on := 10, ground := Ground.phase }, { on := 11, ground := Ground.phase }, { on := 12, ground := Ground.phase }, { on := 13, ground := Ground.phase }, { on := 14, ground := Ground.phase }, { on := 15, ground := Ground.phase }, { on := 16, ground := Ground.phase }, { on := 17, ground := Ground.phase }, { on := 18, ground := Ground.phase }, { on := 19, ground := Ground.phase }, { on := 20, ground := Ground.phase }, { on := 21, ground := Ground.phase }, { on := 22, ground := Ground.phase }, { on := 23, ground := Ground.phase }, { on := 24, ground := Ground.phase }, { on := 25, ground := Ground.phase }, { on := 27, ground := Ground.phase }, { on := 28, ground := Ground.phase }, { on := 29, ground := Ground.phase }, { on := 30, ground := Ground.phase }, { on := 31, ground := Ground.phase }, { on := 32, ground := Ground.phase }, { on := 33, ground := Ground.phase }, { on := 34, ground := Ground.phase }, { on := 35, ground := Ground.phase }, { on := 36, ground := Ground.phase }, { on := 37, ground := Ground.phase }, { on := 38, ground := Ground.phase }], guard := none }) (v := ?v47) rfl (by kernel_rfl) (by kernel_rfl) (by kernel_rfl) (fun _ _ _ h => h) (Or.inl ⟨by rfl, ?hy47⟩) hS7 ?rest47
                                    | refine wpAnyH_take (i := 40) (oi := { dst := some 12, op := Op.assign (Operand.tmp 197), type := 4, pos := "orders.go:189", after := #[{ on := 39, ground := Ground.data }, { on := 26, ground := Ground.chain }, { on := 0, ground := Ground.phase }, { on := 1, ground := Ground.phase }, { on := 2, ground := Ground.phase }, { on := 3, ground := Ground.phase }, { on := 4, ground := Ground.phase }, { on := 5, ground := Ground.phase }, { on := 6, ground := Ground.phase }, { on := 7, ground := Ground.phase }, { on := 8, ground := Ground.phase }, { on := 9, ground := Ground.phase }, { on := 10, ground := Ground.phase }, { on := 11, ground := Ground.phase }, { on := 12, ground := Ground.phase }, { on := 13, ground := Ground.phase }, { on := 14, ground := Ground.phase }, { on := 15, ground := Ground.phase }, { on := 16, ground := Ground.phase }, { on := 17, ground := Ground.phase }, { on := 18, ground := Ground.phase }, { on := 19, ground := Ground.phase }, { on := 20, ground := Ground.phase }, { on := 21, ground := Ground.phase }, { on := 22, ground := Ground.phase }, { on := 23, ground := Ground.phase }, { on := 24, ground := Ground.phase }, { on := 25, ground := Ground.phase }, { on := 26, ground := Ground.phase }, { on := 27, ground := Ground.phase }, { on := 28, ground := Ground.phase }, { on := 29, ground := Ground.phase }, { on := 30, ground := Ground.phase }, { on := 31, ground := Ground.phase }, { on := 32, ground := Ground.phase }, { on := 33, ground := Ground.phase }, { on := 34, ground := Ground.phase }, { on := 35, ground := Ground.phase }, { on := 36, ground := Ground.phase }, { on := 37, ground := Ground.phase }, { on := 38, ground := Ground.phase }], guard := none }) (v := ?v47) rfl (by kernel_rfl) (by kernel_rfl) (by kernel_rfl) (fun _ _ _ h => h) (Or.inl ⟨by rfl, ?hy47⟩) hS7 ?rest47
                                    | refine wpAnyH_take (i := 40) (oi := { dst := some 12, op := Op.assign (Operand.tmp 197), type := 4, pos := "orders.go:189", after := #[{ on := 39, ground := Ground.data }, { on := 26, ground := Ground.chain }, { on := 0, ground := Ground.phase }, { on := 1, ground := Ground.phase }, { on := 2, ground := Ground.phase }, { on := 3, ground := Ground.phase }, { on := 4, ground := Ground.phase }, { on := 5, ground := Ground.phase }, { on := 6, ground := Ground.phase }, { on := 7, ground := Ground.phase }, { on := 8, ground := Ground.phase }, { on := 9, ground := Ground.phase }, { on := 10, ground := Ground.phase }, { on := 11, ground := Ground.phase }, { on := 12, ground := Ground.phase }, { on := 13, ground := Ground.phase }, { on := 14, ground := Ground.phase }, { on := 15, ground := Ground.phase }, { on := 16, ground := Ground.phase }, { on := 17, ground := Ground.phase }, { on := 18, ground := Ground.phase }, { on := 19, ground := Ground.phase }, { on := 20, ground := Ground.phase }, { on := 21, ground := Ground.phase }, { on := 22, ground := Ground.phase }, { on := 23, ground := Ground.phase }, { on := 24, ground := Ground.phase }, { on := 25, ground := Ground.phase }, { on := 27, ground := Ground.phase }, { on := 28, ground := Ground.phase }, { on := 29, ground := Ground.phase }, { on := 30, ground := Ground.phase }, { on := 31, ground := Ground.phase }, { on := 32, ground := Ground.phase }, { on := 33, ground := Ground.phase }, { on := 34, ground := Ground.phase }, { on := 35, ground := Ground.phase }, { on := 36, ground := Ground.phase }, { on := 37, ground := Ground.phase }, { on := 38, ground := Ground.phase }, { on := 39, ground := Ground.phase }], guard := none }) (v := ?v47) rfl (by kernel_rfl) (by kernel_rfl) (by kernel_rfl) (fun _ _ _ h => h) (Or.inl ⟨by rfl, ?hy47⟩) hS7 ?rest47
                                    | refine wpAnyH_take (i := 40) (oi := { dst := some 12, op := Op.assign (Operand.tmp 197), type := 4, pos := "orders.go:189", after := #[{ on := 39, ground := Ground.data }, { on := 26, ground := Ground.chain }, { on := 0, ground := Ground.phase }, { on := 1, ground := Ground.phase }, { on := 2, ground := Ground.phase }, { on := 3, ground := Ground.phase }, { on := 4, ground := Ground.phase }, { on := 5, ground := Ground.phase }, { on := 6, ground := Ground.phase }, { on := 7, ground := Ground.phase }, { on := 8, ground := Ground.phase }, { on := 9, ground := Ground.phase }, { on := 10, ground := Ground.phase }, { on := 11, ground := Ground.phase }, { on := 13, ground := Ground.phase }, { on := 14, ground := Ground.phase }, { on := 15, ground := Ground.phase }, { on := 16, ground := Ground.phase }, { on := 17, ground := Ground.phase }, { on := 18, ground := Ground.phase }, { on := 19, ground := Ground.phase }, { on := 20, ground := Ground.phase }, { on := 21, ground := Ground.phase }, { on := 22, ground := Ground.phase }, { on := 23, ground := Ground.phase }, { on := 24, ground := Ground.phase }, { on := 25, ground := Ground.phase }, { on := 27, ground := Ground.phase }, { on := 28, ground := Ground.phase }, { on := 29, ground := Ground.phase }, { on := 30, ground := Ground.phase }, { on := 31, ground := Ground.phase }, { on := 32, ground := Ground.phase }, { on := 33, ground := Ground.phase }, { on := 34, ground := Ground.phase }, { on := 35, ground := Ground.phase }, { on := 36, ground := Ground.phase }, { on := 37, ground := Ground.phase }, { on := 38, ground := Ground.phase }], guard := none }) (v := ?v47) rfl (by kernel_rfl) (by kernel_rfl) (by kernel_rfl) (fun _ _ _ h => h) (Or.inl ⟨by rfl, ?hy47⟩) hS7 ?rest47
                                  case hy47 => (intro w' hSw; obtain ⟨x0, x1, x2, x3, x4, x5⟩ := HCY.out _ hSw; go_simp; try with_reducible rfl)
                                  try simp only [Act.put, List.setIfInBounds_toArray, List.set_cons_zero, List.set_cons_succ]
                                  refine wpAnyH_done (by kernel_rfl) ?_ _
                                  refine NoPanic.normal ?_
                                  have HS7 := Aside0.mk hS7
                                  clear hS7
                                  go_wp2_with fail
                                  go_roundg g2
                                  case measure => omega
                                  case rel => exact ⟨k + 1, false, rfl, by go_num, by omega, by omega, ⟨HNX.out _ (by simp [ze, zs])⟩, ⟨below_step HBK.out HB7.out⟩⟩
                                · exact AllReadyH.nil
                             | true =>
                               cases zE : (x.e == y.e) with
                               | false =>
                                 as_aux_lemma =>
                                  clear hS0
                                  have hb0 := HBRD.out
                                  refine wp_region_noPanic ?_
                                  refine wp_region_held_drew (S := fun w' => Below wr.heap.size wr w') (by kernel_rfl) hb0 (fun hS0 => ?_)
                                  refine wpAnyH_take (i := 0) (oi := { dst := some 158, op := Op.move (Operand.tmp 12), type := 4, pos := "orders.go:189", after := #[], guard := none }) (v := ?v48) rfl (by kernel_rfl) (by kernel_rfl) (by kernel_rfl) (fun _ _ _ h => h) (Or.inl ⟨by rfl, ?hy48⟩) hS0 ?rest48
                                  case hy48 => (intro w' hSw; obtain ⟨x0, x1, x2, x3, x4, x5⟩ := HCY.out _ hSw; go_simp; try with_reducible rfl)
                                  try simp only [Act.put, List.setIfInBounds_toArray, List.set_cons_zero, List.set_cons_succ]
                                  refine wpAnyH_take (i := 1) (oi := { dst := some 159, op := Op.move (Operand.tmp 158), type := 4, pos := "orders.go:189", after := #[{ on := 0, ground := Ground.data }], guard := none }) (v := ?v49) rfl (by kernel_rfl) (by kernel_rfl) (by kernel_rfl) (fun _ _ _ h => h) (Or.inl ⟨by rfl, ?hy49⟩) hS0 ?rest49
                                  case hy49 => (intro w' hSw; obtain ⟨x0, x1, x2, x3, x4, x5⟩ := HCY.out _ hSw; go_simp; try with_reducible rfl)
                                  try simp only [Act.put, List.setIfInBounds_toArray, List.set_cons_zero, List.set_cons_succ]
                                  refine wpAnyH_take (i := 2) (oi := { dst := some 160, op := Op.move (Operand.tmp 0), type := 49, pos := "orders.go:189", after := #[{ on := 1, ground := Ground.guard }], guard := some (1, false) }) (v := ?v50) rfl (by kernel_rfl) (by kernel_rfl) (by kernel_rfl) (fun _ _ _ h => h) (Or.inl ⟨by rfl, ?hy50⟩) hS0 ?rest50
                                  case hy50 => (intro w' hSw; obtain ⟨x0, x1, x2, x3, x4, x5⟩ := HCY.out _ hSw; go_simp; try with_reducible rfl)
                                  try simp only [Act.put, List.setIfInBounds_toArray, List.set_cons_zero, List.set_cons_succ]
                                  refine wpAnyH_take (i := 3) (oi := { dst := some 161, op := Op.move (Operand.tmp 13), type := 3, pos := "orders.go:189", after := #[{ on := 1, ground := Ground.guard }], guard := some (1, false) }) (v := ?v51) rfl (by kernel_rfl) (by kernel_rfl) (by kernel_rfl) (fun _ _ _ h => h) (Or.inl ⟨by rfl, ?hy51⟩) hS0 ?rest51
                                  case hy51 => (intro w' hSw; obtain ⟨x0, x1, x2, x3, x4, x5⟩ := HCY.out _ hSw; go_simp; try with_reducible rfl)
                                  try simp only [Act.put, List.setIfInBounds_toArray, List.set_cons_zero, List.set_cons_succ]
                                  refine wpAnyH_take (i := 4) (oi := { dst := some 162, op := Op.indexAddr 49 (Operand.tmp 160) (Operand.tmp 161), type := 0, pos := "orders.go:189", after := #[{ on := 2, ground := Ground.data }, { on := 3, ground := Ground.data }, { on := 1, ground := Ground.guard }], guard := some (1, false) }) (v := ?v52) rfl (by kernel_rfl) (by kernel_rfl) (by kernel_rfl) (fun _ _ _ h => h) (Or.inl ⟨by rfl, ?hy52⟩) hS0 ?rest52
                                  case hy52 => (intro w' hSw; obtain ⟨x0, x1, x2, x3, x4, x5⟩ := HCY.out _ hSw; go_simp; try with_reducible rfl)
                                  try simp only [Act.put, List.setIfInBounds_toArray, List.set_cons_zero, List.set_cons_succ]
                                  refine wpAnyH_take (i := 5) (oi := { dst := some 163, op := Op.fieldAddr 31 (Operand.tmp 162) 0, type := 0, pos := "orders.go:189", after := #[{ on := 4, ground := Ground.data }, { on := 1, ground := Ground.guard }], guard := some (1, false) }) (v := ?v53) rfl (by kernel_rfl) (by kernel_rfl) (by kernel_rfl) (fun _ _ _ h => h) (Or.inl ⟨by rfl, ?hy53⟩) hS0 ?rest53
                                  case hy53 => (intro w' hSw; obtain ⟨x0, x1, x2, x3, x4, x5⟩ := HCY.out _ hSw; go_simp; try with_reducible rfl)
                                  try simp only [Act.put, List.setIfInBounds_toArray, List.set_cons_zero, List.set_cons_succ]
                                  refine wpAnyH_take (i := 6) (oi := { dst := some 164, op := Op.load 22 (Operand.tmp 163), type := 22, pos := "orders.go:189", after := #[{ on := 5, ground := Ground.data }, { on := 1, ground := Ground.guard }], guard := some (1, false) }) (v := ?v54) rfl (by kernel_rfl) (by kernel_rfl) (by kernel_rfl) (fun _ _ _ h => h) (Or.inl ⟨by rfl, ?hy54⟩) hS0 ?rest54
                                  case hy54 => (intro w' hSw; obtain ⟨x0, x1, x2, x3, x4, x5⟩ := HCY.out _ hSw; go_simp; try with_reducible rfl)
                                  try simp only [Act.put, List.setIfInBounds_toArray, List.set_cons_zero, List.set_cons_succ]
                                  refine wpAnyH_take (i := 7) (oi := { dst := some 165, op := Op.move (Operand.tmp 10), type := 49, pos := "orders.go:189", after := #[{ on := 1, ground := Ground.guard }], guard := some (1, false) }) (v := ?v55) rfl (by kernel_rfl) (by kernel_rfl) (by kernel_rfl) (fun _ _ _ h => h) (Or.inl ⟨by rfl, ?hy55⟩) hS0 ?rest55
                                  case hy55 => (intro w' hSw; obtain ⟨x0, x1, x2, x3, x4, x5⟩ := HCY.out _ hSw; go_simp; try with_reducible rfl)
                                  try simp only [Act.put, List.setIfInBounds_toArray, List.set_cons_zero, List.set_cons_succ]
                                  refine wpAnyH_take (i := 8) (oi := { dst := some 166, op := Op.move (Operand.tmp 11), type := 3, pos := "orders.go:189", after := #[{ on := 1, ground := Ground.guard }], guard := some (1, false) }) (v := ?v56) rfl (by kernel_rfl) (by kernel_rfl) (by kernel_rfl) (fun _ _ _ h => h) (Or.inl ⟨by rfl, ?hy56⟩) hS0 ?rest56
                                  case hy56 => (intro w' hSw; obtain ⟨x0, x1, x2, x3, x4, x5⟩ := HCY.out _ hSw; go_simp; try with_reducible rfl)
                                  try simp only [Act.put, List.setIfInBounds_toArray, List.set_cons_zero, List.set_cons_succ]
                                  refine wpAnyH_take (i := 9) (oi := { dst := some 167, op := Op.indexAddr 49 (Operand.tmp 165) (Operand.tmp 166), type := 0, pos := "orders.go:189", after := #[{ on := 7, ground := Ground.data }, { on := 8, ground := Ground.data }, { on := 1, ground := Ground.guard }], guard := some (1, false) }) (v := ?v57) rfl (by kernel_rfl) (by kernel_rfl) (by kernel_rfl) (fun _ _ _ h => h) (Or.inl ⟨by rfl, ?hy57⟩) hS0 ?rest57
                                  case hy57 => (intro w' hSw; obtain ⟨x0, x1, x2, x3, x4, x5⟩ := HCY.out _ hSw; go_simp; try with_reducible rfl)
                                  try simp only [Act.put, List.setIfInBounds_toArray, List.set_cons_zero, List.set_cons_succ]
                                  refine wpAnyH_take (i := 10) (oi := { dst := some 168, op := Op.fieldAddr 31 (Operand.tmp 167) 0, type := 0, pos := "orders.go:189", after := #[{ on := 9, ground := Ground.data }, { on := 1, ground := Ground.guard }], guard := some (1, false) }) (v := ?v58) rfl (by kernel_rfl) (by kernel_rfl) (by kernel_rfl) (fun _ _ _ h => h) (Or.inl ⟨by rfl, ?hy58⟩) hS0 ?rest58
                                  case hy58 => (intro w' hSw; obtain ⟨x0, x1, x2, x3, x4, x5⟩ := HCY.out _ hSw; go_simp; try with_reducible rfl)
                                  try simp only [Act.put, List.setIfInBounds_toArray, List.set_cons_zero, List.set_cons_succ]
                                  refine wpAnyH_take (i := 11) (oi := { dst := some 169, op := Op.load 22 (Operand.tmp 168), type := 22, pos := "orders.go:189", after := #[{ on := 10, ground := Ground.data }, { on := 1, ground := Ground.guard }], guard := some (1, false) }) (v := ?v59) rfl (by kernel_rfl) (by kernel_rfl) (by kernel_rfl) (fun _ _ _ h => h) (Or.inl ⟨by rfl, ?hy59⟩) hS0 ?rest59
                                  case hy59 => (intro w' hSw; obtain ⟨x0, x1, x2, x3, x4, x5⟩ := HCY.out _ hSw; go_simp; try with_reducible rfl)
                                  try simp only [Act.put, List.setIfInBounds_toArray, List.set_cons_zero, List.set_cons_succ]
                                  refine wpAnyH_ready (rs := [12]) (by kernel_rfl) (by simp) ?_
                                  refine AllReadyH.cons (o := { dst := some 170, op := Op.call { callee := Callee.value (Operand.func 14), args := #[Operand.tmp 164, Operand.tmp 169], argTypes := #[22, 22] }, type := 4, pos := "orders.go:189", after := #[{ on := 6, ground := Ground.data }, { on := 11, ground := Ground.data }, { on := 1, ground := Ground.chain }, { on := 1, ground := Ground.guard }], guard := some (1, false) }) rfl (fun K hK => ?_) ?_
                                  ·
                                    go_simp
                                    go_at_call 14
                                    refine Calls.mono (specSame_calls x.a y.a x.cap y.cap x.la y.la _ (HLX.out.1.next HBRD.out) (HLY.out.1.next (below_step HBK.out HBRD.out)) HLX.out.2 HLY.out.2) ?_
                                    rintro e w7 ⟨rfl, hb7⟩
                                    rw [ze]
                                    have HB7 := Aside0.mk (below_step HBRD.out hb7)
                                    clear hb7
                                    refine hK.out _ _ HB7.out (fun hS7 => ?_)
                                    try simp only [Act.put, List.setIfInBounds_toArray, List.set_cons_zero, List.set_cons_succ]
                                    refine wpAnyH_take (i := 13) (oi := { dst := some 171, op := Op.move (Operand.tmp 170), type := 4, pos := "orders.go:189", after := #[{ on := 12, ground := Ground.data }, { on := 12, ground := Ground.chain }, { on := 1, ground := Ground.guard }], guard := some (1, false) }) (v := ?v60) rfl (by kernel_rfl) (by kernel_rfl) (by kernel_rfl) (fun _ _ _ h => h) (Or.inl ⟨by rfl, ?hy60⟩) hS7 ?rest60
                                    case hy60 => (intro w' hSw; obtain ⟨x0, x1, x2, x3, x4, x5⟩ := HCY.out _ hSw; go_simp; try with_reducible rfl)
                                    try simp only [Act.put, List.setIfInBounds_toArray, List.set_cons_zero, List.set_cons_succ]
                                    refine wpAnyH_take (i := 14) (oi := { dst := some 172, op := Op.move (Operand.tmp 0), type := 49, pos := "orders.go:189", after := #[{ on := 13, ground := Ground.guard }], guard := some (13, true) }) (v := ?v61) rfl (by kernel_rfl) (by kernel_rfl) (by kernel_rfl) (fun _ _ _ h => h) (Or.inl ⟨by rfl, ?hy61⟩) hS7 ?rest61
                                    case hy61 => (intro w' hSw; obtain ⟨x0, x1, x2, x3, x4, x5⟩ := HCY.out _ hSw; go_simp; try with_reducible rfl)
                                    try simp only [Act.put, List.setIfInBounds_toArray, List.set_cons_zero, List.set_cons_succ]
                                    refine wpAnyH_take (i := 15) (oi := { dst := some 173, op := Op.move (Operand.tmp 13), type := 3, pos := "orders.go:189", after := #[{ on := 13, ground := Ground.guard }], guard := some (13, true) }) (v := ?v62) rfl (by kernel_rfl) (by kernel_rfl) (by kernel_rfl) (fun _ _ _ h => h) (Or.inl ⟨by rfl, ?hy62⟩) hS7 ?rest62
                                    case hy62 => (intro w' hSw; obtain ⟨x0, x1, x2, x3, x4, x5⟩ := HCY.out _ hSw; go_simp; try with_reducible rfl)
                                    try simp only [Act.put, List.setIfInBounds_toArray, List.set_cons_zero, List.set_cons_succ]
                                    refine wpAnyH_take (i := 16) (oi := { dst := some 174, op := Op.indexAddr 49 (Operand.tmp 172) (Operand.tmp 173), type := 0, pos := "orders.go:189", after := #[{ on := 14, ground := Ground.data }, { on := 15, ground := Ground.data }, { on := 13, ground := Ground.guard }], guard := some (13, true) }) (v := ?v63) rfl (by kernel_rfl) (by kernel_rfl) (by kernel_rfl) (fun _ _ _ h => h) (Or.inl ⟨by rfl, ?hy63⟩) hS7 ?rest63
                                    case hy63 => (intro w' hSw; obtain ⟨x0, x1, x2, x3, x4, x5⟩ := HCY.out _ hSw; go_simp; try with_reducible rfl)
                                    try simp only [Act.put, List.setIfInBounds_toArray, List.set_cons_zero, List.set_cons_succ]
                                    refine wpAnyH_take (i := 17) (oi := { dst := some 175, op := Op.fieldAddr 31 (Operand.tmp 174) 2, type := 0, pos := "orders.go:189", after := #[{ on := 16, ground := Ground.data }, { on := 13, ground := Ground.guard }], guard := some (13, true) }) (v := ?v64) rfl (by kernel_rfl) (by kernel_rfl) (by kernel_rfl) (fun _ _ _ h => h) (Or.inl ⟨by rfl, ?hy64⟩) hS7 ?rest64
                                    case hy64 => (intro w' hSw; obtain ⟨x0, x1, x2, x3, x4, x5⟩ := HCY.out _ hSw; go_simp; try with_reducible rfl)
                                    try simp only [Act.put, List.setIfInBounds_toArray, List.set_cons_zero, List.set_cons_succ]
                                    refine wpAnyH_take (i := 18) (oi := { dst := some 176, op := Op.load 2 (Operand.tmp 175), type := 2, pos := "orders.go:189", after := #[{ on := 17, ground := Ground.data }, { on := 13, ground := Ground.guard }], guard := some (13, true) }) (v := ?v65) rfl (by kernel_rfl) (by kernel_rfl) (by kernel_rfl) (fun _ _ _ h => h) (Or.inl ⟨by rfl, ?hy65⟩) hS7 ?rest65
                                    case hy65 => (intro w' hSw; obtain ⟨x0, x1, x2, x3, x4, x5⟩ := HCY.out _ hSw; go_simp; try with_reducible rfl)
                                    try simp only [Act.put, List.setIfInBounds_toArray, List.set_cons_zero, List.set_cons_succ]
                                    refine wpAnyH_take (i := 19) (oi := { dst := some 177, op := Op.move (Operand.tmp 10), type := 49, pos := "orders.go:189", after := #[{ on := 13, ground := Ground.guard }], guard := some (13, true) }) (v := ?v66) rfl (by kernel_rfl) (by kernel_rfl) (by kernel_rfl) (fun _ _ _ h => h) (Or.inl ⟨by rfl, ?hy66⟩) hS7 ?rest66
                                    case hy66 => (intro w' hSw; obtain ⟨x0, x1, x2, x3, x4, x5⟩ := HCY.out _ hSw; go_simp; try with_reducible rfl)
                                    try simp only [Act.put, List.setIfInBounds_toArray, List.set_cons_zero, List.set_cons_succ]
                                    refine wpAnyH_take (i := 20) (oi := { dst := some 178, op := Op.move (Operand.tmp 11), type := 3, pos := "orders.go:189", after := #[{ on := 13, ground := Ground.guard }], guard := some (13, true) }) (v := ?v67) rfl (by kernel_rfl) (by kernel_rfl) (by kernel_rfl) (fun _ _ _ h => h) (Or.inl ⟨by rfl, ?hy67⟩) hS7 ?rest67
                                    case hy67 => (intro w' hSw; obtain ⟨x0, x1, x2, x3, x4, x5⟩ := HCY.out _ hSw; go_simp; try with_reducible rfl)
                                    try simp only [Act.put, List.setIfInBounds_toArray, List.set_cons_zero, List.set_cons_succ]
                                    refine wpAnyH_take (i := 21) (oi := { dst := some 179, op := Op.indexAddr 49 (Operand.tmp 177) (Operand.tmp 178), type := 0, pos := "orders.go:189", after := #[{ on := 19, ground := Ground.data }, { on := 20, ground := Ground.data }, { on := 13, ground := Ground.guard }], guard := some (13, true) }) (v := ?v68) rfl (by kernel_rfl) (by kernel_rfl) (by kernel_rfl) (fun _ _ _ h => h) (Or.inl ⟨by rfl, ?hy68⟩) hS7 ?rest68
                                    case hy68 => (intro w' hSw; obtain ⟨x0, x1, x2, x3, x4, x5⟩ := HCY.out _ hSw; go_simp; try with_reducible rfl)
                                    try simp only [Act.put, List.setIfInBounds_toArray, List.set_cons_zero, List.set_cons_succ]
                                    refine wpAnyH_take (i := 22) (oi := { dst := some 180, op := Op.fieldAddr 31 (Operand.tmp 179) 2, type := 0, pos := "orders.go:189", after := #[{ on := 21, ground := Ground.data }, { on := 13, ground := Ground.guard }], guard := some (13, true) }) (v := ?v69) rfl (by kernel_rfl) (by kernel_rfl) (by kernel_rfl) (fun _ _ _ h => h) (Or.inl ⟨by rfl, ?hy69⟩) hS7 ?rest69
                                    case hy69 => (intro w' hSw; obtain ⟨x0, x1, x2, x3, x4, x5⟩ := HCY.out _ hSw; go_simp; try with_reducible rfl)
                                    try simp only [Act.put, List.setIfInBounds_toArray, List.set_cons_zero, List.set_cons_succ]
                                    refine wpAnyH_take (i := 23) (oi := { dst := some 181, op := Op.load 2 (Operand.tmp 180), type := 2, pos := "orders.go:189", after := #[{ on := 22, ground := Ground.data }, { on := 13, ground := Ground.guard }], guard := some (13, true) }) (v := ?v70) rfl (by kernel_rfl) (by kernel_rfl) (by kernel_rfl) (fun _ _ _ h => h) (Or.inl ⟨by rfl, ?hy70⟩) hS7 ?rest70
                                    case hy70 => (intro w' hSw; obtain ⟨x0, x1, x2, x3, x4, x5⟩ := HCY.out _ hSw; go_simp; try with_reducible rfl)
                                    try simp only [Act.put, List.setIfInBounds_toArray, List.set_cons_zero, List.set_cons_succ]
                                    refine wpAnyH_take (i := 24) (oi := { dst := some 182, op := Op.binOp BinOp.eql 2 (Operand.tmp 176) (Operand.tmp 181) 2, type := 4, pos := "orders.go:189", after := #[{ on := 18, ground := Ground.data }, { on := 23, ground := Ground.data }, { on := 13, ground := Ground.guard }], guard := some (13, true) }) (v := ?v71) rfl (by kernel_rfl) (by kernel_rfl) (by kernel_rfl) (fun _ _ _ h => h) (Or.inl ⟨by rfl, ?hy71⟩) hS7 ?rest71
                                    case hy71 => (intro w' hSw; obtain ⟨x0, x1, x2, x3, x4, x5⟩ := HCY.out _ hSw; go_simp; try with_reducible rfl)
                                    try simp only [Act.put, List.setIfInBounds_toArray, List.set_cons_zero, List.set_cons_succ]
                                    refine wpAnyH_take (i := 25) (oi := { dst := some 183, op := Op.pick (Operand.tmp 171) (Operand.tmp 182) (Operand.const (Value.bool false)), type := 4, pos := "orders.go:189", after := #[{ on := 13, ground := Ground.data }, { on := 24, ground := Ground.data }, { on := 1, ground := Ground.guard }], guard := some (1, false) }) (v := ?v72) rfl (by kernel_rfl) (by kernel_rfl) (by kernel_rfl) (fun _ _ _ h => h) (Or.inl ⟨by rfl, ?hy72⟩) hS7 ?rest72
                                    case hy72 => (intro w' hSw; obtain ⟨x0, x1, x2, x3, x4, x5⟩ := HCY.out _ hSw; go_simp; try with_reducible rfl)
                                    try simp only [Act.put, List.setIfInBounds_toArray, List.set_cons_zero, List.set_cons_succ]
                                    refine wpAnyH_take (i := 26) (oi := { dst := some 184, op := Op.move (Operand.tmp 183), type := 4, pos := "orders.go:189", after := #[{ on := 25, ground := Ground.data }, { on := 13, ground := Ground.chain }, { on := 1, ground := Ground.guard }], guard := some (1, false) }) (v := ?v73) rfl (by kernel_rfl) (by kernel_rfl) (by kernel_rfl) (fun _ _ _ h => h) (Or.inl ⟨by rfl, ?hy73⟩) hS7 ?rest73
                                    case hy73 => (intro w' hSw; obtain ⟨x0, x1, x2, x3, x4, x5⟩ := HCY.out _ hSw; go_simp; try with_reducible rfl)
                                    try simp only [Act.put, List.setIfInBounds_toArray, List.set_cons_zero, List.set_cons_succ]
                                    refine wpAnyH_take (i := 27) (oi := { dst := some 185, op := Op.move (Operand.tmp 0), type := 49, pos := "orders.go:189", after := #[{ on := 26, ground := Ground.guard }], guard := some (26, true) }) (v := ?v74) rfl (by kernel_rfl) (by kernel_rfl) (by kernel_rfl) (fun _ _ _ h => h) (Or.inl ⟨by rfl, ?hy74⟩) hS7 ?rest74
                                    case hy74 => (intro w' hSw; obtain ⟨x0, x1, x2, x3, x4, x5⟩ := HCY.out _ hSw; go_simp; try with_reducible rfl)
                                    try simp only [Act.put, List.setIfInBounds_toArray, List.set_cons_zero, List.set_cons_succ]
                                    refine wpAnyH_take (i := 28) (oi := { dst := some 186, op := Op.move (Operand.tmp 13), type := 3, pos := "orders.go:189", after := #[{ on := 26, ground := Ground.guard }], guard := some (26, true) }) (v := ?v75) rfl (by kernel_rfl) (by kernel_rfl) (by kernel_rfl) (fun _ _ _ h => h) (Or.inl ⟨by rfl, ?hy75⟩) hS7 ?rest75
                                    case hy75 => (intro w' hSw; obtain ⟨x0, x1, x2, x3, x4, x5⟩ := HCY.out _ hSw; go_simp; try with_reducible rfl)
                                    try simp only [Act.put, List.setIfInBounds_toArray, List.set_cons_zero, List.set_cons_succ]
                                    refine wpAnyH_take (i := 29) (oi := { dst := some 187, op := Op.indexAddr 49 (Operand.tmp 185) (Operand.tmp 186), type := 0, pos := "orders.go:189", after := #[{ on := 27, ground := Ground.data }, { on := 28, ground := Ground.data }, { on := 26, ground := Ground.guard }], guard := some (26, true) }) (v := ?v76) rfl (by kernel_rfl) (by kernel_rfl) (by kernel_rfl) (fun _ _ _ h => h) (Or.inl ⟨by rfl, ?hy76⟩) hS7 ?rest76
                                    case hy76 => (intro w' hSw; obtain ⟨x0, x1, x2, x3, x4, x5⟩ := HCY.out _ hSw; go_simp; try with_reducible rfl)
                                    try simp only [Act.put, List.setIfInBounds_toArray, List.set_cons_zero, List.set_cons_succ]
                                    refine wpAnyH_take (i := 30) (oi := { dst := some 188, op := Op.fieldAddr 31 (Operand.tmp 187) 3, type := 0, pos := "orders.go:189", after := #[{ on := 29, ground := Ground.data }, { on := 26, ground := Ground.guard }], guard := some (26, true) }) (v := ?v77) rfl (by kernel_rfl) (by kernel_rfl) (by kernel_rfl) (fun _ _ _ h => h) (Or.inl ⟨by rfl, ?hy77⟩) hS7 ?rest77
                                    case hy77 => (intro w' hSw; obtain ⟨x0, x1, x2, x3, x4, x5⟩ := HCY.out _ hSw; go_simp; try with_reducible rfl)
                                    try simp only [Act.put, List.setIfInBounds_toArray, List.set_cons_zero, List.set_cons_succ]
                                    refine wpAnyH_take (i := 31) (oi := { dst := some 189, op := Op.load 2 (Operand.tmp 188), type := 2, pos := "orders.go:189", after := #[{ on := 30, ground := Ground.data }, { on := 26, ground := Ground.guard }], guard := some (26, true) }) (v := ?v78) rfl (by kernel_rfl) (by kernel_rfl) (by kernel_rfl) (fun _ _ _ h => h) (Or.inl ⟨by rfl, ?hy78⟩) hS7 ?rest78
                                    case hy78 => (intro w' hSw; obtain ⟨x0, x1, x2, x3, x4, x5⟩ := HCY.out _ hSw; go_simp; try with_reducible rfl)
                                    try simp only [Act.put, List.setIfInBounds_toArray, List.set_cons_zero, List.set_cons_succ]
                                    refine wpAnyH_take (i := 32) (oi := { dst := some 190, op := Op.move (Operand.tmp 10), type := 49, pos := "orders.go:189", after := #[{ on := 26, ground := Ground.guard }], guard := some (26, true) }) (v := ?v79) rfl (by kernel_rfl) (by kernel_rfl) (by kernel_rfl) (fun _ _ _ h => h) (Or.inl ⟨by rfl, ?hy79⟩) hS7 ?rest79
                                    case hy79 => (intro w' hSw; obtain ⟨x0, x1, x2, x3, x4, x5⟩ := HCY.out _ hSw; go_simp; try with_reducible rfl)
                                    try simp only [Act.put, List.setIfInBounds_toArray, List.set_cons_zero, List.set_cons_succ]
                                    refine wpAnyH_take (i := 33) (oi := { dst := some 191, op := Op.move (Operand.tmp 11), type := 3, pos := "orders.go:189", after := #[{ on := 26, ground := Ground.guard }], guard := some (26, true) }) (v := ?v80) rfl (by kernel_rfl) (by kernel_rfl) (by kernel_rfl) (fun _ _ _ h => h) (Or.inl ⟨by rfl, ?hy80⟩) hS7 ?rest80
                                    case hy80 => (intro w' hSw; obtain ⟨x0, x1, x2, x3, x4, x5⟩ := HCY.out _ hSw; go_simp; try with_reducible rfl)
                                    try simp only [Act.put, List.setIfInBounds_toArray, List.set_cons_zero, List.set_cons_succ]
                                    refine wpAnyH_take (i := 34) (oi := { dst := some 192, op := Op.indexAddr 49 (Operand.tmp 190) (Operand.tmp 191), type := 0, pos := "orders.go:189", after := #[{ on := 32, ground := Ground.data }, { on := 33, ground := Ground.data }, { on := 26, ground := Ground.guard }], guard := some (26, true) }) (v := ?v81) rfl (by kernel_rfl) (by kernel_rfl) (by kernel_rfl) (fun _ _ _ h => h) (Or.inl ⟨by rfl, ?hy81⟩) hS7 ?rest81
                                    case hy81 => (intro w' hSw; obtain ⟨x0, x1, x2, x3, x4, x5⟩ := HCY.out _ hSw; go_simp; try with_reducible rfl)
                                    try simp only [Act.put, List.setIfInBounds_toArray, List.set_cons_zero, List.set_cons_succ]
                                    refine wpAnyH_take (i := 35) (oi := { dst := some 193, op := Op.fieldAddr 31 (Operand.tmp 192) 3, type := 0, pos := "orders.go:189", after := #[{ on := 34, ground := Ground.data }, { on := 26, ground := Ground.guard }], guard := some (26, true) }) (v := ?v82) rfl (by kernel_rfl) (by kernel_rfl) (by kernel_rfl) (fun _ _ _ h => h) (Or.inl ⟨by rfl, ?hy82⟩) hS7 ?rest82
                                    case hy82 => (intro w' hSw; obtain ⟨x0, x1, x2, x3, x4, x5⟩ := HCY.out _ hSw; go_simp; try with_reducible rfl)
                                    try simp only [Act.put, List.setIfInBounds_toArray, List.set_cons_zero, List.set_cons_succ]
                                    refine wpAnyH_take (i := 36) (oi := { dst := some 194, op := Op.load 2 (Operand.tmp 193), type := 2, pos := "orders.go:189", after := #[{ on := 35, ground := Ground.data }, { on := 26, ground := Ground.guard }], guard := some (26, true) }) (v := ?v83) rfl (by kernel_rfl) (by kernel_rfl) (by kernel_rfl) (fun _ _ _ h => h) (Or.inl ⟨by rfl, ?hy83⟩) hS7 ?rest83
                                    case hy83 => (intro w' hSw; obtain ⟨x0, x1, x2, x3, x4, x5⟩ := HCY.out _ hSw; go_simp; try with_reducible rfl)
                                    try simp only [Act.put, List.setIfInBounds_toArray, List.set_cons_zero, List.set_cons_succ]
                                    refine wpAnyH_take (i := 37) (oi := { dst := some 195, op := Op.binOp BinOp.eql 2 (Operand.tmp 189) (Operand.tmp 194) 2, type := 4, pos := "orders.go:189", after := #[{ on := 31, ground := Ground.data }, { on := 36, ground := Ground.data }, { on := 26, ground := Ground.guard }], guard := some (26, true) }) (v := ?v84) rfl (by kernel_rfl) (by kernel_rfl) (by kernel_rfl) (fun _ _ _ h => h) (Or.inl ⟨by rfl, ?hy84⟩) hS7 ?rest84
                                    case hy84 => (intro w' hSw; obtain ⟨x0, x1, x2, x3, x4, x5⟩ := HCY.out _ hSw; go_simp; try with_reducible rfl)
                                    try simp only [Act.put, List.setIfInBounds_toArray, List.set_cons_zero, List.set_cons_succ]
                                    refine wpAnyH_take (i := 38) (oi := { dst := some 196, op := Op.pick (Operand.tmp 184) (Operand.tmp 195) (Operand.const (Value.bool false)), type := 4, pos := "orders.go:189", after := #[{ on := 26, ground := Ground.data }, { on := 37, ground := Ground.data }, { on := 1, ground := Ground.guard }], guard := some (1, false) }) (v := ?v85) rfl (by kernel_rfl) (by kernel_rfl) (by kernel_rfl) (fun _ _ _ h => h) (Or.inl ⟨by rfl, ?hy85⟩) hS7 ?rest85
                                    case hy85 => (intro w' hSw; obtain ⟨x0, x1, x2, x3, x4, x5⟩ := HCY.out _ hSw; go_simp; try with_reducible rfl)
                                    try simp only [Act.put, List.setIfInBounds_toArray, List.set_cons_zero, List.set_cons_succ]
                                    refine wpAnyH_take (i := 39) (oi := { dst := some 197, op := Op.pick (Operand.tmp 159) (Operand.const (Value.bool true)) (Operand.tmp 196), type := 4, pos := "orders.go:189", after := #[{ on := 1, ground := Ground.data }, { on := 38, ground := Ground.data }], guard := none }) (v := ?v86) rfl (by kernel_rfl) (by kernel_rfl) (by kernel_rfl) (fun _ _ _ h => h) (Or.inl ⟨by rfl, ?hy86⟩) hS7 ?rest86
                                    case hy86 => (intro w' hSw; obtain ⟨x0, x1, x2, x3, x4, x5⟩ := HCY.out _ hSw; go_simp; try with_reducible rfl)
                                    try simp only [Act.put, List.setIfInBounds_toArray, List.set_cons_zero, List.set_cons_succ]
                                    first
                                      | refine wpAnyH_take (i := 40) (oi := { dst := some 12, op := Op.assign (Operand.tmp 197), type := 4, pos := "orders.go:189", after := #[{ on := 39, ground := Ground.data }, { on := 26, ground := Ground.chain }, { on := 0, ground := Ground.phase }, { on := 1, ground := Ground.phase }, { on := 2, ground := Ground.phase }, { on := 3, ground := Ground.phase }, { on := 4, ground := Ground.phase }, { on := 5, ground := Ground.phase }, { on := 6, ground := Ground.phase }, { on := 7, ground := Ground.phase }, { on := 8, ground := Ground.phase }, { on := 9, ground := Ground.phase }, { on := 10, ground := Ground.phase }, { on := 11, ground := Ground.phase }, { on := 12, ground := Ground.phase }, { on := 13, ground := Ground.phase }, { on := 14, ground := Ground.phase }, { on := 15, ground := Ground.phase }, { on := 16, ground := Ground.phase }, { on := 17, ground := Ground.phase }, { on := 18, ground := Ground.phase }, { on := 19, ground := Ground.phase }, { on := 20, ground := Ground.phase }, { on := 21, ground := Ground.phase }, { on := 22, ground := Ground.phase }, { on := 23, ground := Ground.phase }, { on := 24, ground := Ground.phase }, { on := 25, ground := Ground.phase }, { on := 26, ground := Ground.phase }, { on := 27, ground := Ground.phase }, { on := 28, ground := Ground.phase }, { on := 29, ground := Ground.phase }, { on := 30, ground := Ground.phase }, { on := 31, ground := Ground.phase }, { on := 32, ground := Ground.phase }, { on := 33, ground := Ground.phase }, { on := 34, ground := Ground.phase }, { on := 35, ground := Ground.phase }, { on := 36, ground := Ground.phase }, { on := 37, ground := Ground.phase }, { on := 38, ground := Ground.phase }, { on := 39, ground := Ground.phase }], guard := none }) (v := ?v87) rfl (by kernel_rfl) (by kernel_rfl) (by kernel_rfl) (fun _ _ _ h => h) (Or.inl ⟨by rfl, ?hy87⟩) hS7 ?rest87
                                      | refine wpAnyH_take (i := 40) (oi := { dst := some 12, op := Op.assign (Operand.tmp 197), type := 4, pos := "orders.go:189", after := #[{ on := 39, ground := Ground.data }, { on := 26, ground := Ground.chain }, { on := 0, ground := Ground.phase }, { on := 1, ground := Ground.phase }, { on := 2, ground := Ground.phase }, { on := 3, ground := Ground.phase }, { on := 4, ground := Ground.phase }, { on := 5, ground := Ground.phase }, { on := 6, ground := Ground.phase }, { on := 7, ground := Ground.phase }, { on := 8, ground := Ground.phase }, { on := 9, ground := Ground.phase }, { on := 10, ground := Ground.phase }, { on := 11, ground := Ground.phase }, { on := 12, ground := Ground.phase }, { on := 13, ground := Ground.phase }, { on := 14, ground := Ground.phase }, { on := 15, ground := Ground.phase }, { on := 16, ground := Ground.phase }, { on := 17, ground := Ground.phase }, { on := 18, ground := Ground.phase }, { on := 19, ground := Ground.phase }, { on := 20, ground := Ground.phase }, { on := 21, ground := Ground.phase }, { on := 22, ground := Ground.phase }, { on := 23, ground := Ground.phase }, { on := 24, ground := Ground.phase }, { on := 25, ground := Ground.phase }, { on := 27, ground := Ground.phase }, { on := 28, ground := Ground.phase }, { on := 29, ground := Ground.phase }, { on := 30, ground := Ground.phase }, { on := 31, ground := Ground.phase }, { on := 32, ground := Ground.phase }, { on := 33, ground := Ground.phase }, { on := 34, ground := Ground.phase }, { on := 35, ground := Ground.phase }, { on := 36, ground := Ground.phase }, { on := 37, ground := Ground.phase }, { on := 38, ground := Ground.phase }], guard := none }) (v := ?v87) rfl (by kernel_rfl) (by kernel_rfl) (by kernel_rfl) (fun _ _ _ h => h) (Or.inl ⟨by rfl, ?hy87⟩) hS7 ?rest87
                                      | refine wpAnyH_take (i := 40) (oi := { dst := some 12, op := Op.assign (Operand.tmp 197), type := 4, pos := "orders.go:189", after := #[{ on := 39, ground := Ground.data }, { on := 26, ground := Ground.chain }, { on := 0, ground := Ground.phase }, { on := 1, ground := Ground.phase }, { on := 2, ground := Ground.phase }, { on := 3, ground := Ground.phase }, { on := 4, ground := Ground.phase }, { on := 5, ground := Ground.phase }, { on := 6, ground := Ground.phase }, { on := 7, ground := Ground.phase }, { on := 8, ground := Ground.phase }, { on := 9, ground := Ground.phase }, { on := 10, ground := Ground.phase }, { on := 11, ground := Ground.phase }, { on := 12, ground := Ground.phase }, { on := 13, ground := Ground.phase }, { on := 14, ground := Ground.phase }, { on := 15, ground := Ground.phase }, { on := 16, ground := Ground.phase }, { on := 17, ground := Ground.phase }, { on := 18, ground := Ground.phase }, { on := 19, ground := Ground.phase }, { on := 20, ground := Ground.phase }, { on := 21, ground := Ground.phase }, { on := 22, ground := Ground.phase }, { on := 23, ground := Ground.phase }, { on := 24, ground := Ground.phase }, { on := 25, ground := Ground.phase }, { on := 26, ground := Ground.phase }, { on := 27, ground := Ground.phase }, { on := 28, ground := Ground.phase }, { on := 29, ground := Ground.phase }, { on := 30, ground := Ground.phase }, { on := 31, ground := Ground.phase }, { on := 32, ground := Ground.phase }, { on := 33, ground := Ground.phase }, { on := 34, ground := Ground.phase }, { on := 35, ground := Ground.phase }, { on := 36, ground := Ground.phase }, { on := 37, ground := Ground.phase }, { on := 38, ground := Ground.phase }], guard := none }) (v := ?v87) rfl (by kernel_rfl) (by kernel_rfl) (by kernel_rfl) (fun _ _ _ h => h) (Or.inl ⟨by rfl, ?hy87⟩) hS7 ?rest87
                                      | refine wpAnyH_take (i := 40) (oi := { dst := some 12, op := Op.assign (Operand.tmp 197), type := 4, pos := "orders.go:189", after := #[{ on := 39, ground := Ground.data }, { on := 26, ground := Ground.chain }, { on := 0, ground := Ground.phase }, { on := 1, ground := Ground.phase }, { on := 2, ground := Ground.phase }, { on := 3, ground := Ground.phase }, { on := 4, ground := Ground.phase }, { on := 5, ground := Ground.phase }, { on := 6, ground := Ground.phase }, { on := 7, ground := Ground.phase }, { on := 8, ground := Ground.phase }, { on := 9, ground := Ground.phase }, { on := 10, ground := Ground.phase }, { on := 11, ground := Ground.phase }, { on := 12, ground := Ground.phase }, { on := 13, ground := Ground.phase }, { on := 14, ground := Ground.phase }, { on := 15, ground := Ground.phase }, { on := 16, ground := Ground.phase }, { on := 17, ground := Ground.phase }, { on := 18, ground := Ground.phase }, { on := 19, ground := Ground.phase }, { on := 20, ground := Ground.phase }, { on := 21, ground := Ground.phase }, { on := 22, ground := Ground.phase }, { on := 23, ground := Ground.phase }, { on := 24, ground := Ground.phase }, { on := 25, ground := Ground.phase }, { on := 27, ground := Ground.phase }, { on := 28, ground := Ground.phase }, { on := 29, ground := Ground.phase }, { on := 30, ground := Ground.phase }, { on := 31, ground := Ground.phase }, { on := 32, ground := Ground.phase }, { on := 33, ground := Ground.phase }, { on := 34, ground := Ground.phase }, { on := 35, ground := Ground.phase }, { on := 36, ground := Ground.phase }, { on := 37, ground := Ground.phase }, { on := 38, ground := Ground.phase }, { on := 39, ground := Ground.phase }], guard := none }) (v := ?v87) rfl (by kernel_rfl) (by kernel_rfl) (by kernel_rfl) (fun _ _ _ h => h) (Or.inl ⟨by rfl, ?hy87⟩) hS7 ?rest87
                                      | refine wpAnyH_take (i := 40) (oi := { dst := some 12, op := Op.assign (Operand.tmp 197), type := 4, pos := "orders.go:189", after := #[{ on := 39, ground := Ground.data }, { on := 26, ground := Ground.chain }, { on := 0, ground := Ground.phase }, { on := 1, ground := Ground.phase }, { on := 2, ground := Ground.phase }, { on := 3, ground := Ground.phase }, { on := 4, ground := Ground.phase }, { on := 5, ground := Ground.phase }, { on := 6, ground := Ground.phase }, { on := 7, ground := Ground.phase }, { on := 8, ground := Ground.phase }, { on := 9, ground := Ground.phase }, { on := 10, ground := Ground.phase }, { on := 11, ground := Ground.phase }, { on := 13, ground := Ground.phase }, { on := 14, ground := Ground.phase }, { on := 15, ground := Ground.phase }, { on := 16, ground := Ground.phase }, { on := 17, ground := Ground.phase }, { on := 18, ground := Ground.phase }, { on := 19, ground := Ground.phase }, { on := 20, ground := Ground.phase }, { on := 21, ground := Ground.phase }, { on := 22, ground := Ground.phase }, { on := 23, ground := Ground.phase }, { on := 24, ground := Ground.phase }, { on := 25, ground := Ground.phase }, { on := 27, ground := Ground.phase }, { on := 28, ground := Ground.phase }, { on := 29, ground := Ground.phase }, { on := 30, ground := Ground.phase }, { on := 31, ground := Ground.phase }, { on := 32, ground := Ground.phase }, { on := 33, ground := Ground.phase }, { on := 34, ground := Ground.phase }, { on := 35, ground := Ground.phase }, { on := 36, ground := Ground.phase }, { on := 37, ground := Ground.phase }, { on := 38, ground := Ground.phase }], guard := none }) (v := ?v87) rfl (by kernel_rfl) (by kernel_rfl) (by kernel_rfl) (fun _ _ _ h => h) (Or.inl ⟨by rfl, ?hy87⟩) hS7 ?rest87
                                    case hy87 => (intro w' hSw; obtain ⟨x0, x1, x2, x3, x4, x5⟩ := HCY.out _ hSw; go_simp; try with_reducible rfl)
                                    try simp only [Act.put, List.setIfInBounds_toArray, List.set_cons_zero, List.set_cons_succ]
                                    refine wpAnyH_done (by kernel_rfl) ?_ _
                                    refine NoPanic.normal ?_
                                    have HS7 := Aside0.mk hS7
                                    clear hS7
                                    go_wp2_with fail
                                    go_roundg g2
                                    case measure => omega
                                    case rel => exact ⟨k + 1, false, rfl, by go_num, by omega, by omega, ⟨HNX.out _ (by simp [ze, zs, zE])⟩, ⟨below_step HBK.out HB7.out⟩⟩
                                  · exact AllReadyH.nil
                               | true =>
                                 as_aux_lemma =>
                                  go_region_held3 (fun w' : World => w'.cell? ⟨b9, off9 + k * 4, none⟩ = some (.slice x.a x.la.length x.cap) ∧ w'.cell? ⟨b9, off9 + k * 4 + 2, none⟩ = some (.int .i64 x.s) ∧ w'.cell? ⟨b9, off9 + k * 4 + 3, none⟩ = some (.int .i64 x.e) ∧ w'.cell? ⟨b5, off5 + i * 4, none⟩ = some (.slice y.a y.la.length y.cap) ∧ w'.cell? ⟨b5, off5 + i * 4 + 2, none⟩ = some (.int .i64 y.s) ∧ w'.cell? ⟨b5, off5 + i * 4 + 3, none⟩ = some (.int .i64 y.e)) (first | assumption | go_keep) (first | (go_at_call 14; refine Calls.mono (specSame_calls x.a y.a x.cap y.cap x.la y.la _ (HLX.out.1.next HBRD.out) (HLY.out.1.next (below_step HBK.out HBRD.out)) HLX.out.2 HLY.out.2) ?_; rintro e w7 ⟨rfl, hb7⟩; rw [ze]; have HB7 := Aside0.mk (below_step HBRD.out hb7); have hS7 := HCY.out _ HB7.out; clear hb7))
                                  go_wp2_with fail
                                  go_roundg g2
                                  case measure => omega
                                  case rel => exact ⟨k + 1, true, rfl, by go_num, by omega, by omega, ⟨HNX.out _ (by simp [ze, zs, zE])⟩, ⟨below_step HBK.out HB7.out⟩⟩
                       · have hke : k = xs.length := by omega
                         have hbt : bf2 = true := by
                           obtain ⟨x, hx, hk⟩ := HIN9.out
                           exact HFB.out x (by rw [hke, List.take_length]; exact hx) hk
                         subst hbt
                         go_wp2_with fail
                         go_roundg g1
                         case measure => omega
                         case rel => exact ⟨i + 1, by go_num, by omega, by omega, HBK⟩
                · have ht1' : 1 ≤ t := by omega
                  cases bf with
                  | true =>
                    have HFV := Aside0.mk (show fireX xs (t + 62135596800) = true by rw [fire_eq ht1' HGD.out, ← HFE.out])
                    have HB8 := Aside0.mk (below_step HB5.out HBI.out)
                    go_wp2_with fail
                    refine (alertsAt_calls a cap xs t _ (HX.out.next HB8.out) HGG.out h8 (by omega) (by omega)).mono ?_
                    rintro e w8 ⟨rfl, hb8⟩
                    rw [HFV.out, show statV (!true) = ⟨#[102, 105, 114, 105, 110, 103]⟩ from rfl]
                    have HB9 := Aside0.mk (below_step HB8.out hb8); clear hb8
                    go_wp2_with fail
                    refine (awake_calls _ (HG.out.next HB9.out)).mono ?_
                    rintro e w9 ⟨rfl, hb9⟩
                    have HB10 := Aside0.mk (below_step HB9.out hb9); clear hb9
                    go_wp2
                    go_ret
                    exact ⟨rfl, HB10.out⟩
                  | false =>
                    have HFV := Aside0.mk (show fireX xs (t + 62135596800) = false by rw [fire_eq ht1' HGD.out, ← HFE.out])
                    have HB8 := Aside0.mk (below_step HB5.out HBI.out)
                    go_wp2_with fail
                    refine (alertsAt_calls a cap xs t _ (HX.out.next HB8.out) HGG.out h8 (by omega) (by omega)).mono ?_
                    rintro e w8 ⟨rfl, hb8⟩
                    rw [HFV.out, show statV (!false) = ⟨#[114, 101, 115, 111, 108, 118, 101, 100]⟩ from rfl]
                    have HB9 := Aside0.mk (below_step HB8.out hb8); clear hb8
                    go_wp2_with fail
                    refine (awake_calls _ (HG.out.next HB9.out)).mono ?_
                    rintro e w9 ⟨rfl, hb9⟩
                    have HB10 := Aside0.mk (below_step HB9.out hb9); clear hb9
                    go_wp2
                    go_ret
                    exact ⟨rfl, HB10.out⟩
  · have d0 : decide (8 < (xs.length : Int)) = true := decide_eq_true (by omega)
    go_enter Tryz.func7, Tryz.ntmps7
    go_wp2_with fail
    refine (fits15_calls a cap xs _ HX.out hlen HM.out).mono ?_
    rintro e w1 ⟨⟨b, rfl, hb⟩, hb1⟩
    have HB1 := Aside0.mk hb1
    clear hb1 hb
    cases b with
    | false =>
      go_wp2
      go_ret
      exact ⟨rfl, HB1.out⟩
    | true =>
      go_wp2_with fail
      refine (awake_calls _ (HG.out.next HB1.out)).mono ?_
      rintro e w6 ⟨rfl, hb6⟩
      have HB6 := Aside0.mk (below_step HB1.out hb6); clear hb6
      go_wp2
      go_ret
      exact ⟨rfl, HB6.out⟩
end Go.Proofs.YtobbfenkdnaanaaGreatDoor
