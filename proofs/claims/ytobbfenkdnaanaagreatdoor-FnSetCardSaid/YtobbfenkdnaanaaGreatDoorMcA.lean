/- impl.MetricCompare, by contract. -/
import Derived.Test.YtobbfenkdnaanaaGreatDoorBefA
import Derived.Deep.RegionWith
set_option linter.unusedVariables false
set_option linter.unusedSimpArgs false
namespace Go.Proofs.YtobbfenkdnaanaaGreatDoor
open Go.RowKit Go.Maps Go.WideMaps Go.Sort

theorem setCell_id (w : World) (b o : Nat) (v : Value) (h : w.cell? ⟨b, o, none⟩ = some v) : w.setCell ⟨b, o, none⟩ v = w := by
  unfold World.cell? at h
  have hh : (w.setCell ⟨b, o, none⟩ v).heap = w.heap := by
    unfold World.setCell
    apply Array.ext_getElem?
    intro j
    rw [Array.getElem?_modify]
    split
    · rename_i hj
      subst hj
      cases hb : w.heap[b]? with
      | none => rfl
      | some x =>
        simp only [hb] at h
        cases x with
        | cells c e fr =>
          simp at h
          simp only [Option.map_some, Option.isSome_none, Bool.false_eq_true, if_false]
          congr 1
          congr 1
          apply Array.ext_getElem?
          intro i
          rw [Array.getElem?_setIfInBounds]
          split
          · rename_i hi
            subst hi
            split
            · exact h.symm
            · rename_i hlt
              rw [Array.getElem?_eq_none (by omega)]
          · rfl
        | _ => rfl
    · rfl
  have e : w.setCell ⟨b, o, none⟩ v = { w with heap := (w.setCell ⟨b, o, none⟩ v).heap } := rfl
  rw [e, hh]
theorem drewN_setCell_id (w : World) (b o : Nat) (v : Value) (h : w.cell? ⟨b, o, none⟩ = some v) (q : Nat) : (w.drewN q).setCell ⟨b, o, none⟩ v = w.drewN q := setCell_id _ b o v h
theorem same_self {l : LL} (h : Once l) : sameB l l = true := sameB_true ⟨rfl, fun p hp => getL_of_mem h hp⟩

set_option maxHeartbeats 2000000 in
set_option maxRecDepth 100000 in
theorem mc1_calls (a a' : Option Addr) (cap cap' : Nat) (la lb : LL) (n : Nat) (W : World) (hn : n + 7 ≤ W.heap.size) (hla : Labs W a la) (hlb : Labs W a' lb) (hoa : Once la) (hob : Once lb) (hsa : Sized la) (hsb : Sized lb)
    (c0 : W.cell? ⟨n, 0, none⟩ = some (.slice a la.length cap)) (c1 : W.cell? ⟨n + 1, 0, none⟩ = some (.slice a' lb.length cap'))
    (c2 : W.cell? ⟨n + 2, 0, none⟩ = some (.bool false)) (c3 : W.cell? ⟨n + 3, 0, none⟩ = some (.bool false)) (c4 : W.cell? ⟨n + 4, 0, none⟩ = some (.bool false)) (c5 : W.cell? ⟨n + 5, 0, none⟩ = some (.int .u64 0)) (c6 : W.cell? ⟨n + 6, 0, none⟩ = some (.int .u64 0))
    (f2 : W.frozen? ⟨n + 2, 0, none⟩ = false) (f3 : W.frozen? ⟨n + 3, 0, none⟩ = false) (f4 : W.frozen? ⟨n + 4, 0, none⟩ = false) (f5 : W.frozen? ⟨n + 5, 0, none⟩ = false) (f6 : W.frozen? ⟨n + 6, 0, none⟩ = false) :
    Calls Tryz.prog 49 #[.pointer (some ⟨n, 0, none⟩), .pointer (some ⟨n + 1, 0, none⟩), .pointer (some ⟨n + 2, 0, none⟩), .pointer (some ⟨n + 3, 0, none⟩), .pointer (some ⟨n + 4, 0, none⟩), .pointer (some ⟨n + 5, 0, none⟩), .pointer (some ⟨n + 6, 0, none⟩)] W fun e w' =>
      e = .returned (.tuple #[]) ∧ ∃ w1, Below W.heap.size W w1 ∧ w' = ((((w1.setCell ⟨n + 2, 0, none⟩ (.bool (sameB la lb))).setCell ⟨n + 3, 0, none⟩ (.bool (befB la lb))).setCell ⟨n + 4, 0, none⟩ (.bool true)).setCell ⟨n + 5, 0, none⟩ (.int .u64 (fingH la))).setCell ⟨n + 6, 0, none⟩ (.int .u64 (fastH la)) := by
  have HC := Aside0.mk (And.intro c2 (And.intro c3 (And.intro c4 (And.intro c5 c6))))
  have HF := Aside0.mk (And.intro f2 (And.intro f3 (And.intro f4 (And.intro f5 f6))))
  have HLA := Aside0.mk (show Labs W.drew a la from hla)
  have HLB := Aside0.mk (show Labs W.drew a' lb from hlb)
  have HO := Aside0.mk (And.intro hoa hob)
  have HSA := Aside0.mk hsa
  have HSB := Aside0.mk hsb
  have HN := Aside0.mk hn
  have C1 := Aside0.mk (show W.drew.cell? ⟨n + 1, 0, none⟩ = some (.slice a' lb.length cap') from c1)
  clear hla hlb hoa hob hsa hsb c2 c3 c4 c5 c6 f2 f3 f4 f5 f6 hn
  go_enter Tryz.func49, Tryz.ntmps49
  go_wp2_with fail
  go_region_with (first
    | (go_at_call_of 50 (Value.slice a la.length cap); refine Calls.mono (set_calls a cap la _ ?hl HO.out.1 HSA.out) ?_; (case hl => exact HLA.out); rintro e w1 ⟨b1, rfl, hle1, hm1, hbl1⟩; have HM1 := Aside0.mk hm1; have HB1 := Aside0.mk hbl1; have e1 := (hbl1.cell (p := ⟨n + 1, 0, none⟩) (by have := HN.out; show n + 1 < W.heap.size; omega)).trans C1.out; clear hle1 hm1 hbl1)
    | (go_at_call_of 50 (Value.slice a' lb.length cap'); refine Calls.mono (set_calls a' cap' lb _ ?hl HO.out.2 HSB.out) ?_; (case hl => exact HLB.out.next HB1.out); rintro e w2 ⟨b2, rfl, hle2, hm2, hbl2⟩; have HM2 := Aside0.mk hm2; have HB2 := Aside0.mk hbl2; clear hle2 hm2 hbl2))
  all_goals
    have HW2 := Aside0.mk (below_step (below_step (Below.refl W.heap.size W).drew HB1.out) HB2.out)
    have HA2 := Aside0.mk (HM1.out.next HB2.out)
    clear e1
    go_wp2_with fail
    refine (mequal_calls b1 b2 20 20 la lb _ HA2.out HM2.out HSA.out HSB.out).mono ?_
    rintro e w3 ⟨rfl, hb3⟩
    have HW3 := Aside0.mk (below_step HW2.out hb3)
    have HA3 := Aside0.mk (HA2.out.next hb3)
    have HM3 := Aside0.mk (HM2.out.next hb3)
    clear hb3
    go_wp2_with fail
    refine (mbefore_calls b1 b2 20 20 la lb _ HA3.out HM3.out HSA.out HSB.out).mono ?_
    rintro e w4 ⟨rfl, hb4⟩
    have HW4 := Aside0.mk (below_step HW3.out hb4)
    have HA4 := Aside0.mk (HA3.out.next hb4)
    clear hb4
    go_wp2_with fail
    refine (clone_calls b1 20 la _ HA4.out HSA.out).mono ?_
    rintro e w5 ⟨b3, rfl, hle5, hm5, hb5⟩
    have HW5 := Aside0.mk (below_step HW4.out hb5)
    have HA5 := Aside0.mk (HA4.out.next hb5)
    have HM5 := Aside0.mk hm5
    clear hle5 hm5 hb5
    go_wp2_with fail
    refine (mequal_calls b1 b3 20 20 la la _ HA5.out HM5.out HSA.out HSA.out).mono ?_
    rintro e w6 ⟨rfl, hb6⟩
    rw [same_self HO.out.1]
    have HW6 := Aside0.mk (below_step HW5.out hb6)
    have HA6 := Aside0.mk (HA5.out.next hb6)
    clear hb6
    go_wp2_with fail
    refine (finger_calls b1 20 la _ HA6.out HSA.out).mono ?_
    rintro e w7 ⟨rfl, hb7⟩
    have HW7 := Aside0.mk (below_step HW6.out hb7)
    have HA7 := Aside0.mk (HA6.out.next hb7)
    clear hb7
    go_wp2_with fail
    refine (fast_calls b1 20 la _ HA7.out HSA.out).mono ?_
    rintro e w8 ⟨rfl, hb8⟩
    have hw8 := below_step HW7.out hb8
    have g2 := (hw8.cell (p := ⟨n + 2, 0, none⟩) (by have := HN.out; show n + 2 < _; omega)).trans HC.out.1
    have g3 := (hw8.cell (p := ⟨n + 3, 0, none⟩) (by have := HN.out; show n + 3 < _; omega)).trans HC.out.2.1
    have g4 := (hw8.cell (p := ⟨n + 4, 0, none⟩) (by have := HN.out; show n + 4 < _; omega)).trans HC.out.2.2.1
    have g5 := (hw8.cell (p := ⟨n + 5, 0, none⟩) (by have := HN.out; show n + 5 < _; omega)).trans HC.out.2.2.2.1
    have g6 := (hw8.cell (p := ⟨n + 6, 0, none⟩) (by have := HN.out; show n + 6 < _; omega)).trans HC.out.2.2.2.2
    have k2 := (hw8.frozen (p := ⟨n + 2, 0, none⟩) (by have := HN.out; show n + 2 < _; omega)).trans HF.out.1
    have k3 := (hw8.frozen (p := ⟨n + 3, 0, none⟩) (by have := HN.out; show n + 3 < _; omega)).trans HF.out.2.1
    have k4 := (hw8.frozen (p := ⟨n + 4, 0, none⟩) (by have := HN.out; show n + 4 < _; omega)).trans HF.out.2.2.1
    have k5 := (hw8.frozen (p := ⟨n + 5, 0, none⟩) (by have := HN.out; show n + 5 < _; omega)).trans HF.out.2.2.2.1
    have k6 := (hw8.frozen (p := ⟨n + 6, 0, none⟩) (by have := HN.out; show n + 6 < _; omega)).trans HF.out.2.2.2.2
    have HW8 := Aside0.mk hw8
    clear hw8 hb8
    go_wp2
    go_end0
    exact ⟨rfl, w8, HW8.out, rfl⟩

/-- What the call inside safe leaves. -/
def MCQ (w : World) (la lb : LL) (w' : World) : Prop :=
  Below w.heap.size w w' ∧ w.heap.size + 7 < w'.heap.size ∧ w'.cell? ⟨w.heap.size + 2, 0, none⟩ = some (.bool (sameB la lb)) ∧ w'.cell? ⟨w.heap.size + 3, 0, none⟩ = some (.bool (befB la lb)) ∧ w'.cell? ⟨w.heap.size + 4, 0, none⟩ = some (.bool true) ∧
    w'.cell? ⟨w.heap.size + 5, 0, none⟩ = some (.int .u64 (fingH la)) ∧ w'.cell? ⟨w.heap.size + 6, 0, none⟩ = some (.int .u64 (fastH la)) ∧ (∀ i, 2 ≤ i → i ≤ 6 → w'.frozen? ⟨w.heap.size + i, 0, none⟩ = false) ∧
    w'.cell? ⟨w.heap.size + 7, 0, none⟩ = some (.bool false) ∧ w'.frozen? ⟨w.heap.size + 7, 0, none⟩ = false

set_option maxHeartbeats 1000000 in
set_option maxRecDepth 100000 in
theorem mc_calls (a a' : Option Addr) (cap cap' : Nat) (la lb : LL) (w : World) (hla : Labs w a la) (hlb : Labs w a' lb) (hoa : Once la) (hob : Once lb) (hsa : Sized la) (hsb : Sized lb) :
    Calls Tryz.prog 13 #[.slice a la.length cap, .slice a' lb.length cap'] w fun e w' => e = .returned (.tuple #[.bool (sameB la lb), .bool (befB la lb), .bool true, .int .u64 (fingH la), .int .u64 (fastH la)]) ∧ Below w.heap.size w w' := by
  have HL := Aside0.mk (And.intro hla hlb)
  have HO := Aside0.mk (And.intro hoa (And.intro hob (And.intro hsa hsb)))
  clear hla hlb hoa hob hsa hsb
  go_enter Tryz.func13, Tryz.ntmps13
  go_wp2_with fail
  refine (safe_calls 49 _ _ (MCQ w la lb) (fun _ => by simp [go_sem]) ?_ ?_).mono ?_
  · have hk : Below w.heap.size w ((((((((w.alloc (Obj.cells #[Value.slice a la.length cap] 22)).alloc (Obj.cells #[Value.slice a' lb.length cap'] 22)).alloc (Obj.cells #[Value.bool false] 4)).alloc (Obj.cells #[Value.bool false] 4)).alloc (Obj.cells #[Value.bool false] 4)).alloc (Obj.cells #[Value.int IntKind.u64 0] 25)).alloc (Obj.cells #[Value.int IntKind.u64 0] 25)).alloc (Obj.cells #[Value.bool false] 4)) :=
      below_alloc (below_alloc (below_alloc (below_alloc (below_alloc (below_alloc (below_alloc (below_alloc (Below.refl _ _) _) _) _) _) _) _) _) _
    refine (mc1_calls a a' cap cap' la lb w.heap.size _ (by simp) (HL.out.1.next hk) (HL.out.2.next hk) HO.out.1 HO.out.2.1 HO.out.2.2.1 HO.out.2.2.2 (by simp [go_sem]) (by simp [go_sem]) (by simp [go_sem]) (by simp [go_sem]) (by simp [go_sem]) (by simp [go_sem]) (by simp [go_sem]) (by simp [go_sem]) (by simp [go_sem]) (by simp [go_sem]) (by simp [go_sem]) (by simp [go_sem])).mono ?_
    rintro e w' ⟨rfl, w1, hb, rfl⟩
    have e2 := hb.cell (p := ⟨w.heap.size + 2, 0, none⟩) (by simp)
    have e3 := hb.cell (p := ⟨w.heap.size + 3, 0, none⟩) (by simp)
    have e4 := hb.cell (p := ⟨w.heap.size + 4, 0, none⟩) (by simp)
    have e5 := hb.cell (p := ⟨w.heap.size + 5, 0, none⟩) (by simp)
    have e6 := hb.cell (p := ⟨w.heap.size + 6, 0, none⟩) (by simp)
    have e7 := hb.cell (p := ⟨w.heap.size + 7, 0, none⟩) (by simp)
    have f2 := hb.frozen (p := ⟨w.heap.size + 2, 0, none⟩) (by simp)
    have f3 := hb.frozen (p := ⟨w.heap.size + 3, 0, none⟩) (by simp)
    have f4 := hb.frozen (p := ⟨w.heap.size + 4, 0, none⟩) (by simp)
    have f5 := hb.frozen (p := ⟨w.heap.size + 5, 0, none⟩) (by simp)
    have f6 := hb.frozen (p := ⟨w.heap.size + 6, 0, none⟩) (by simp)
    have f7 := hb.frozen (p := ⟨w.heap.size + 7, 0, none⟩) (by simp)
    have e9 := hb.size
    simp [go_sem] at e2 e3 e4 e5 e6 e7 f2 f3 f4 f5 f6 f7 e9
    have hb' := below_step hk hb
    refine ⟨rfl, ((((hb'.setCell (p := ⟨w.heap.size + 2, 0, none⟩) (by simp) _).setCell (p := ⟨w.heap.size + 3, 0, none⟩) (by simp) _).setCell (p := ⟨w.heap.size + 4, 0, none⟩) (by simp) _).setCell (p := ⟨w.heap.size + 5, 0, none⟩) (by simp) _).setCell (p := ⟨w.heap.size + 6, 0, none⟩) (by simp) _, by simp [World.setCell]; omega, ?_, ?_, ?_, ?_, ?_, ?_, ?_, ?_⟩
    · simp [go_sem, e2]
    · simp [go_sem, e3]
    · simp [go_sem, e4]
    · simp [go_sem, e5]
    · simp [go_sem, e6]
    · intro i h1 h2
      rcases (show i = 2 ∨ i = 3 ∨ i = 4 ∨ i = 5 ∨ i = 6 by omega) with rfl | rfl | rfl | rfl | rfl
      · simp [go_sem, f2]
      · simp [go_sem, f3]
      · simp [go_sem, f4]
      · simp [go_sem, f5]
      · simp [go_sem, f6]
    · simp [go_sem, e7]
    · simp [go_sem, f7]
  · rintro w' ⟨_, _, _, _, _, _, _, _, hc, hf⟩
    simpa using ⟨hc, hf⟩
  rintro e w2 ⟨rfl, w1, ⟨hb, hs1, h2, h3, h4, h5, h6, hf, _, _⟩, hb2⟩
  have f2 := (hb2.cell (p := ⟨w.heap.size + 2, 0, none⟩) (by simp)).trans h2
  have f3 := (hb2.cell (p := ⟨w.heap.size + 3, 0, none⟩) (by simp)).trans h3
  have f4 := (hb2.cell (p := ⟨w.heap.size + 4, 0, none⟩) (by simp)).trans h4
  have f5 := (hb2.cell (p := ⟨w.heap.size + 5, 0, none⟩) (by simp)).trans h5
  have f6 := (hb2.cell (p := ⟨w.heap.size + 6, 0, none⟩) (by simp)).trans h6
  have k2 := (hb2.frozen (p := ⟨w.heap.size + 2, 0, none⟩) (by simp)).trans (hf 2 (by omega) (by omega))
  have k3 := (hb2.frozen (p := ⟨w.heap.size + 3, 0, none⟩) (by simp)).trans (hf 3 (by omega) (by omega))
  have k4 := (hb2.frozen (p := ⟨w.heap.size + 4, 0, none⟩) (by simp)).trans (hf 4 (by omega) (by omega))
  have k5 := (hb2.frozen (p := ⟨w.heap.size + 5, 0, none⟩) (by simp)).trans (hf 5 (by omega) (by omega))
  have k6 := (hb2.frozen (p := ⟨w.heap.size + 6, 0, none⟩) (by simp)).trans (hf 6 (by omega) (by omega))
  have HFF := Aside0.mk (hb.trans (hb2.mono (by simp; omega)))
  have s2 := drewN_setCell_id _ _ _ _ f2
  have s3 := drewN_setCell_id _ _ _ _ f3
  have s4 := drewN_setCell_id _ _ _ _ f4
  have s5 := drewN_setCell_id _ _ _ _ f5
  have s6 := drewN_setCell_id _ _ _ _ f6
  clear hb hs1 h2 h3 h4 h5 h6 hf hb2
  go_wp2
  go_quiet (fail)
  go_wp2
  refine bodyPost_ret (v := .tuple #[.bool (sameB la lb), .bool (befB la lb), .bool true, .int .u64 (fingH la), .int .u64 (fastH la)]) (by simp [results, Tryz.results13, go_sem, f2, f3, f4, f5, f6]) rfl ⟨rfl, below_drewN HFF.out _⟩
end Go.Proofs.YtobbfenkdnaanaaGreatDoor
