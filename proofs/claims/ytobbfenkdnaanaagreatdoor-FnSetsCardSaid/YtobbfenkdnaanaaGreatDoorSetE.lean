/- impl.SetCompare, by contract. -/
import Derived.Test.YtobbfenkdnaanaaGreatDoorSetD
set_option linter.unusedVariables false
set_option linter.unusedSimpArgs false
namespace Go.Proofs.YtobbfenkdnaanaaGreatDoor
open Go.RowKit Go.Maps Go.WideMaps Go.Sort

set_option maxRecDepth 100000 in
/-- As safe_calls, and: nothing but safe's own box is turned behind the call. -/
theorem safe_calls2 (G : Nat) (cap : Array Value) (w : World) (Q : World → Prop)
    (hE : ∀ w, (callFunc G cap).run Tryz.prog w = .ok (.enter G cap) w)
    (hG : Calls Tryz.prog G cap (w.alloc (.cells #[.bool false] 4)) fun e w' => e = .returned (.tuple #[]) ∧ Q w')
    (hQ : ∀ w', Q w' → w'.cell? ⟨w.heap.size, 0, none⟩ = some (.bool false) ∧ w'.frozen? ⟨w.heap.size, 0, none⟩ = false) :
    Calls Tryz.prog 48 #[.func (.func G) #[] cap] w fun e w' => e = .returned (.bool true) ∧ ∃ w1, Q w1 ∧ w1.grownBy w' (some w.heap.size) := by
  have HG := Lib.hid hG; clear hG
  have HQ := Lib.hid hQ; clear hQ
  have hmf : ∀ (fn : Fn) (first cap : Array Value) (w : World), (Instr.makeFunc fn first cap).run Tryz.prog w = .ok (.func fn first cap) w := fun _ _ _ _ => rfl
  go_enter_defers Tryz.func48, Tryz.ntmps48
  go_wp2_with fail
  refine (HG.out).mono ?_
  rintro e w1 ⟨rfl, hq⟩
  obtain ⟨hc, hz⟩ := HQ.out w1 hq
  go_wp2
  refine leaves_cons (f := 114) (args := #[.pointer (some ⟨w.heap.size, 0, none⟩)]) (by simp) (by simp [go_sem]) ?_
  refine (safe1_idle ⟨w.heap.size, 0, none⟩ true _ ?_ ?_).mono ?_
  · simp [go_sem, hc]
  · simp [go_sem, hz]
  rintro e u' w'' ⟨rfl, rfl, rfl⟩
  simp [Leaves, settle, results, Tryz.results48, go_sem, hc]
  exact ⟨w1, hq, (grownBy_setCell w1 ⟨w.heap.size, 0, none⟩ _).trans (grownBy_setCell _ ⟨w.heap.size, 0, none⟩ _)⟩

/-- What the call inside safe leaves. -/
def SCQ (w : World) (la lb : LL) (w' : World) : Prop :=
  Below w.heap.size w w' ∧ w.heap.size + 5 < w'.heap.size ∧ w'.cell? ⟨w.heap.size + 2, 0, none⟩ = some (.bool (sameB la lb)) ∧ w'.cell? ⟨w.heap.size + 3, 0, none⟩ = some (.bool (befB la lb)) ∧
    w'.frozen? ⟨w.heap.size + 2, 0, none⟩ = false ∧ w'.frozen? ⟨w.heap.size + 3, 0, none⟩ = false ∧ w'.frozen? ⟨w.heap.size + 4, 0, none⟩ = false ∧
    w'.cell? ⟨w.heap.size + 5, 0, none⟩ = some (.bool false) ∧ w'.frozen? ⟨w.heap.size + 5, 0, none⟩ = false ∧
    ∃ g c, w.heap.size + 6 ≤ g ∧ w'.cell? ⟨w.heap.size + 4, 0, none⟩ = some (.slice (some ⟨g, 0, none⟩) (mrgS la lb).length c) ∧ Labs w' (some ⟨g, 0, none⟩) (mrgS la lb)

theorem Labs.kept {w w' : World} {g : Nat} {l : LL} {row : Option Nat} (h : Labs w (some ⟨g, 0, none⟩) l) (hg : w.grownBy w' row) (hne : some g ≠ row) : Labs w' (some ⟨g, 0, none⟩) l := by
  rcases h with h | ⟨b, off, ha, hlt, hc⟩
  · exact .inl h
  · cases ha
    exact .inr ⟨g, 0, rfl, Nat.lt_of_lt_of_le hlt hg.size, fun i hi => ⟨(hg.cell_far _ hlt hne).trans (hc i hi).1, (hg.cell_far _ hlt hne).trans (hc i hi).2⟩⟩

set_option maxHeartbeats 1000000 in
set_option maxRecDepth 100000 in
theorem sc_calls (a a' : Option Addr) (cap cap' : Nat) (la lb : LL) (w : World) (hla : Labs w a la) (hlb : Labs w a' lb) (hoa : Once la) (hob : Once lb) (hsa : Sized la) (hsb : Sized lb) :
    Calls Tryz.prog 26 #[.slice a la.length cap, .slice a' lb.length cap'] w fun e w' => ∃ g c, e = .returned (.tuple #[.bool (sameB la lb), .bool (befB la lb), .slice (some ⟨g, 0, none⟩) (mrgS la lb).length c]) ∧ Labs w' (some ⟨g, 0, none⟩) (mrgS la lb) ∧ Below w.heap.size w w' := by
  have HL := Aside0.mk (And.intro hla hlb)
  have HO := Aside0.mk (And.intro hoa (And.intro hob (And.intro hsa hsb)))
  clear hla hlb hoa hob hsa hsb
  go_enter Tryz.func26, Tryz.ntmps26
  go_wp2_with fail
  refine (safe_calls2 74 _ _ (SCQ w la lb) (fun _ => by simp [go_sem]) ?_ ?_).mono ?_
  · have hk : Below w.heap.size w ((((((w.alloc (Obj.cells #[Value.slice a la.length cap] 22)).alloc (Obj.cells #[Value.slice a' lb.length cap'] 22)).alloc (Obj.cells #[Value.bool false] 4)).alloc (Obj.cells #[Value.bool false] 4)).alloc (Obj.cells #[Value.slice none 0 0] 22)).alloc (Obj.cells #[Value.bool false] 4)) :=
      below_alloc (below_alloc (below_alloc (below_alloc (below_alloc (below_alloc (Below.refl _ _) _) _) _) _) _) _
    have hc5 : ((((((w.alloc (Obj.cells #[Value.slice a la.length cap] 22)).alloc (Obj.cells #[Value.slice a' lb.length cap'] 22)).alloc (Obj.cells #[Value.bool false] 4)).alloc (Obj.cells #[Value.bool false] 4)).alloc (Obj.cells #[Value.slice none 0 0] 22)).alloc (Obj.cells #[Value.bool false] 4)).cell? ⟨w.heap.size + 5, 0, none⟩ = some (.bool false) := by simp [go_sem]
    have hf5 : ((((((w.alloc (Obj.cells #[Value.slice a la.length cap] 22)).alloc (Obj.cells #[Value.slice a' lb.length cap'] 22)).alloc (Obj.cells #[Value.bool false] 4)).alloc (Obj.cells #[Value.bool false] 4)).alloc (Obj.cells #[Value.slice none 0 0] 22)).alloc (Obj.cells #[Value.bool false] 4)).frozen? ⟨w.heap.size + 5, 0, none⟩ = false := by simp [go_sem]
    have hsz : ((((((w.alloc (Obj.cells #[Value.slice a la.length cap] 22)).alloc (Obj.cells #[Value.slice a' lb.length cap'] 22)).alloc (Obj.cells #[Value.bool false] 4)).alloc (Obj.cells #[Value.bool false] 4)).alloc (Obj.cells #[Value.slice none 0 0] 22)).alloc (Obj.cells #[Value.bool false] 4)).heap.size = w.heap.size + 6 := by simp
    refine (sc1_calls a a' cap cap' la lb w _ hk (by rw [hsz]; omega) HL.out.1 HL.out.2 HO.out.1 HO.out.2.1 HO.out.2.2.1 HO.out.2.2.2 (by simp [go_sem]) (by simp [go_sem]) (by simp [go_sem]) (by simp [go_sem]) (by simp [go_sem]) (by simp [go_sem]) (by simp [go_sem]) (by simp [go_sem])).mono ?_
    rintro e w' ⟨rfl, h1, h2, h3, h4, h5, h6, h7, h8, g, c, h9, h10, h11⟩
    rw [hsz] at h2 h9
    have hb5 := h5 (w.heap.size + 5) (Nat.le_refl _) (by rw [hsz]; omega)
    exact ⟨rfl, h1, by omega, h3, h4, h6, h7, h8, (World.cell?_of_block (a := ⟨w.heap.size + 5, 0, none⟩) hb5).trans hc5, (World.frozen?_of_block (a := ⟨w.heap.size + 5, 0, none⟩) hb5).trans hf5, g, c, h9, h10, h11⟩
  · rintro w' ⟨_, _, _, _, _, _, _, hc, hf, _⟩
    simpa using ⟨hc, hf⟩
  rintro e w2 ⟨rfl, w1, ⟨hb, hs1, h2, h3, k2, k3, k4, _, _, g, c, hg6, h4, hl⟩, hgr⟩
  have e5 : (((((w.alloc (Obj.cells #[Value.slice a la.length cap] 22)).alloc (Obj.cells #[Value.slice a' lb.length cap'] 22)).alloc (Obj.cells #[Value.bool false] 4)).alloc (Obj.cells #[Value.bool false] 4)).alloc (Obj.cells #[Value.slice none 0 0] 22)).heap.size = w.heap.size + 5 := by simp
  rw [e5] at hgr
  have f2 := (hgr.cell_far ⟨w.heap.size + 2, 0, none⟩ (show w.heap.size + 2 < _ by omega) (by simp)).trans h2
  have f3 := (hgr.cell_far ⟨w.heap.size + 3, 0, none⟩ (show w.heap.size + 3 < _ by omega) (by simp)).trans h3
  have f4 := (hgr.cell_far ⟨w.heap.size + 4, 0, none⟩ (show w.heap.size + 4 < _ by omega) (by simp)).trans h4
  have k2' := (hgr.frozen_far ⟨w.heap.size + 2, 0, none⟩ (show w.heap.size + 2 < _ by omega) (by simp)).trans k2
  have k3' := (hgr.frozen_far ⟨w.heap.size + 3, 0, none⟩ (show w.heap.size + 3 < _ by omega) (by simp)).trans k3
  have k4' := (hgr.frozen_far ⟨w.heap.size + 4, 0, none⟩ (show w.heap.size + 4 < _ by omega) (by simp)).trans k4
  have HFF := Aside0.mk (hb.grown hgr (by omega) (fun k hk => by cases hk; omega))
  have HLW := Aside0.mk (hl.kept hgr (by intro e; have := Option.some.inj e; omega))
  have s2 := drewN_setCell_id _ _ _ _ f2
  have s3 := drewN_setCell_id _ _ _ _ f3
  have s4 := drewN_setCell_id _ _ _ _ f4
  clear hb hs1 h2 h3 h4 k2 k3 k4 hl hgr hg6 e5
  go_wp2
  go_quiet (fail)
  go_wp2
  refine bodyPost_ret (v := .tuple #[.bool (sameB la lb), .bool (befB la lb), .slice (some ⟨g, 0, none⟩) (mrgS la lb).length c]) (by simp [results, Tryz.results26, go_sem, f2, f3, f4]) rfl ⟨g, c, rfl, HLW.out, below_drewN HFF.out _⟩
end Go.Proofs.YtobbfenkdnaanaaGreatDoor
