/- The reference's Same and Get, by contract. -/
import Derived.Test.YtobbfenkdnaanaaGreatDoorSetB
import Derived.Laws.StructEq
set_option linter.unusedVariables false
set_option linter.unusedSimpArgs false
namespace Go.Proofs.YtobbfenkdnaanaaGreatDoor
open Go.RowKit Go.Maps Go.WideMaps

open Classical in
noncomputable def eqLB (la lb : LL) : Bool := decide (la = lb)
theorem eqLB_true {la lb : LL} (h : la = lb) : eqLB la lb = true := by classical (unfold eqLB; exact decide_eq_true h)
theorem eqLB_false {la lb : LL} (h : ¬ la = lb) : eqLB la lb = false := by classical (unfold eqLB; exact decide_eq_false h)
theorem labNeq (x y x' y' : ByteArray) (w : World) : (binOp .neq 70 (.agg #[.string x, .string y]) (.agg #[.string x', .string y'])).run Tryz.prog w = .ok (.bool (!(x.toList == x'.toList && y.toList == y'.toList))) w := by
  have u9 := Tryz.underlying9
  have a9 := Tryz.isAgg9
  have z9 := Tryz.sizeOf9
  have hS : Tryz.prog.underlying 70 = some (.struct (Tryz.prog.fieldsOf 70)) := by kernel_rfl
  have hp : Tryz.prog.stoodInHeld 70 = false := by kernel_rfl
  rw [run_neq_struct, show (10000 : Nat) = 9999 + 1 from rfl, run_equalIn_agg w 9999 70 _ _ hS hp]
  simp only [Program.fieldsOf, Tryz.underlying70]
  go_simp
  cases h1 : (x.toList == x'.toList) <;> cases h2 : (y.toList == y'.toList) <;> simp_all
theorem labGuard (x y x' y' : ByteArray) (op : BinOp) (a b : Operand) (w : World) : (eqGuard op 70 a b (.agg #[.string x, .string y]) (.agg #[.string x', .string y'])).run Tryz.prog w = .ok () w :=
  run_eqGuard_agg w op 70 a b _ _ (by kernel_rfl)

set_option maxHeartbeats 1000000 in
set_option maxRecDepth 100000 in
theorem specSame_calls (a a' : Option Addr) (cap cap' : Nat) (la lb : LL) (w : World) (hla : Labs w a la) (hlb : Labs w a' lb) (hsa : la.length ≤ 20) (hsb : lb.length ≤ 20) :
    Calls Tryz.prog 14 #[.slice a la.length cap, .slice a' lb.length cap'] w fun e w' => e = .returned (.bool (eqLB la lb)) ∧ Below w.heap.size w w' := by
  have HL := Aside0.mk (And.intro hla hlb)
  clear hla hlb
  by_cases hlen : la.length = lb.length
  · obtain ⟨wo, hwo⟩ : ∃ wo : World, wo = w := ⟨_, rfl⟩
    subst hwo
    have heq : lb.length = la.length := hlen.symm
    clear hlen
    go_enter Tryz.func14, Tryz.ntmps14
    go_wp2_with fail
    go_loopg [5] (la.length + 1) (fun g v5 w' => ∃ i : Nat, v5 = .int .i64 (i : Int) ∧ i + g = la.length + 1 ∧ i ≤ la.length ∧ Aside0 (la.take i = lb.take i) ∧ Aside0 (Below wo.heap.size wo w'))
    case atStart => exact ⟨0, rfl, by omega, by omega, ⟨rfl⟩, ⟨Below.refl _ _⟩⟩
    case round =>
      obtain ⟨i, rfl, hig, hile, HT, HB⟩ := hrel
      by_cases hlt : i < la.length
      · obtain ⟨g1, rfl⟩ : ∃ m, gk = m + 1 := ⟨gk - 1, by omega⟩
        have hltb : i < lb.length := by omega
        rcases HL.out.1.next HB.out with h | ⟨b, off, ha, hblt, hc⟩
        · rw [h] at hlt; simp at hlt
        rcases HL.out.2.next HB.out with h | ⟨b', off', ha', hblt', hc'⟩
        · rw [h] at hltb; simp at hltb
        subst ha
        subst ha'
        have c0 := (hc i hlt).1
        have c1 := (hc i hlt).2
        have c2 := (hc' i hltb).1
        have c3 := (hc' i hltb).2
        obtain ⟨x, hx⟩ : ∃ x, (la[i]'hlt).1 = x := ⟨_, rfl⟩
        obtain ⟨y, hy⟩ : ∃ y, (la[i]'hlt).2 = y := ⟨_, rfl⟩
        obtain ⟨x', hx'⟩ : ∃ x, (lb[i]'hltb).1 = x := ⟨_, rfl⟩
        obtain ⟨y', hy'⟩ : ∃ y, (lb[i]'hltb).2 = y := ⟨_, rfl⟩
        rw [hx] at c0
        rw [hy] at c1
        rw [hx'] at c2
        rw [hy'] at c3
        have HXY := Aside0.mk (show la[i]'hlt = (x, y) ∧ lb[i]'hltb = (x', y') from ⟨by rw [← hx, ← hy], by rw [← hx', ← hy']⟩)
        have HLT := Aside0.mk hltb
        clear hc hc' hx hx' hy hy' hblt hblt'
        have hq1 := labNeq x y x' y'
        have hq2 := labGuard x y x' y'
        by_cases hxx : x = x'
        · by_cases hyy : y = y'
          · subst hxx
            subst hyy
            have k1 := beq_same x
            have k2 := beq_same y
            have HN := Aside0.mk (show la.take (i + 1) = lb.take (i + 1) by
              rw [List.take_add_one, List.take_add_one, List.getElem?_eq_getElem hlt, List.getElem?_eq_getElem HLT.out, HXY.out.1, HXY.out.2, HT.out])
            go_wp2_with fail
            go_quiet (fail)
            go_wp2_with fail
            go_roundg g1
            case measure => omega
            case rel => exact ⟨i + 1, by go_num, by omega, by omega, HN, ⟨below_drewN HB.out _⟩⟩
          · have k2 := beq_ne hyy
            have HF := Aside0.mk (eqLB_false (la := la) (lb := lb) fun e => by
              subst e
              have := HXY.out.1.symm.trans HXY.out.2
              exact hyy (congrArg Prod.snd this))
            clear hyy
            go_wp2_with fail
            go_quiet (fail)
            go_wp2_with fail
            go_ret
            exact ⟨by rw [HF.out]; rfl, below_drewN HB.out _⟩
        · have k1 := beq_ne hxx
          have HF := Aside0.mk (eqLB_false (la := la) (lb := lb) fun e => by
            subst e
            have := HXY.out.1.symm.trans HXY.out.2
            exact hxx (congrArg Prod.fst this))
          clear hxx
          go_wp2_with fail
          go_quiet (fail)
          go_wp2_with fail
          go_ret
          exact ⟨by rw [HF.out]; rfl, below_drewN HB.out _⟩
      · have HF := Aside0.mk (eqLB_true (la := la) (lb := lb) (by
          have := HT.out
          rwa [List.take_of_length_le (by omega), List.take_of_length_le (by omega)] at this))
        go_wp2_with fail
        go_ret
        exact ⟨by rw [HF.out]; rfl, HB.out⟩
  · have c1 : ((la.length : Int) != (lb.length : Int)) = true := by simp; omega
    have HF := Aside0.mk (eqLB_false (la := la) (lb := lb) fun e => hlen (by rw [e]))
    clear hlen
    go_enter Tryz.func14, Tryz.ntmps14
    go_wp2_with fail
    go_ret
    exact ⟨by rw [HF.out]; rfl, Below.refl _ _⟩

/-- The reference's Get. -/
theorem getL_drop_end (l : LL) (x : ByteArray) (i : Nat) (h : l.length ≤ i) : getL (l.drop i) x = none := by rw [List.drop_of_length_le h]; rfl
set_option maxHeartbeats 1000000 in
set_option maxRecDepth 100000 in
theorem specGet_calls (a : Option Addr) (cap : Nat) (l : LL) (x : ByteArray) (w : World) (hl : Labs w a l) (hs : l.length ≤ 20) :
    Calls Tryz.prog 20 #[.slice a l.length cap, .string x] w fun e w' => e = .returned (.tuple #[.string ((getL l x).getD ⟨#[]⟩), .bool (getL l x).isSome]) ∧ Below w.heap.size w w' := by
  have HL := Aside0.mk hl
  clear hl
  obtain ⟨wo, hwo⟩ : ∃ wo : World, wo = w := ⟨_, rfl⟩
  subst hwo
  go_enter Tryz.func20, Tryz.ntmps20
  go_wp2_with fail
  go_loopg [6] (l.length + 1) (fun g v6 w' => ∃ i : Nat, v6 = .int .i64 (i : Int) ∧ i + g = l.length + 1 ∧ i ≤ l.length ∧ Aside0 (getL l x = getL (l.drop i) x) ∧ Aside0 (Below wo.heap.size wo w'))
  case atStart => exact ⟨0, rfl, by omega, by omega, ⟨by rw [List.drop_zero]⟩, ⟨Below.refl _ _⟩⟩
  case round =>
    obtain ⟨i, rfl, hig, hile, HG, HB⟩ := hrel
    by_cases hlt : i < l.length
    · obtain ⟨g1, rfl⟩ : ∃ m, gk = m + 1 := ⟨gk - 1, by omega⟩
      rcases HL.out.next HB.out with h | ⟨b, off, ha, hblt, hc⟩
      · rw [h] at hlt; simp at hlt
      subst ha
      have c0 := (hc i hlt).1
      have c1 := (hc i hlt).2
      have hdr := HG.out
      rw [List.drop_eq_getElem_cons hlt] at hdr
      obtain ⟨y, hy⟩ : ∃ y, (l[i]'hlt).1 = y := ⟨_, rfl⟩
      obtain ⟨v, hv⟩ : ∃ v, (l[i]'hlt).2 = v := ⟨_, rfl⟩
      rw [show l[i]'hlt = (y, v) by rw [← hy, ← hv]] at hdr
      rw [hy] at c0
      rw [hv] at c1
      clear hc hy hv hblt
      by_cases hyx : y = x
      · subst hyx
        have HE := Aside0.mk (show getL l y = some v by rw [hdr, getL_cons_same])
        have k1 := beq_same y
        clear hdr
        go_wp2_with fail
        first | go_quiet (fail) | skip
        go_wp2_with fail
        go_ret2
        exact ⟨by rw [HE.out]; rfl, by first | exact HB.out | exact below_drewN HB.out _⟩
      · have HE := Aside0.mk (show getL l x = getL (l.drop (i + 1)) x by rw [hdr, getL_cons_other _ _ hyx])
        have k1 := beq_ne hyx
        clear hdr hyx
        go_wp2_with fail
        go_roundg g1
        case measure => omega
        case rel => exact ⟨i + 1, by go_num, by omega, by omega, HE, HB⟩
    · have HE := Aside0.mk (show getL l x = none by rw [HG.out, getL_drop_end l x i (by omega)])
      clear hig hile
      go_wp2_with fail
      go_ret2
      exact ⟨by rw [HE.out]; rfl, HB.out⟩
end Go.Proofs.YtobbfenkdnaanaaGreatDoor
