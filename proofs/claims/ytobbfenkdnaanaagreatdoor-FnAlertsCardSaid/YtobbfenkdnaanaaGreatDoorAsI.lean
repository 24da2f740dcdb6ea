/- impl.AlertsSorted, by contract. -/
import Derived.Test.YtobbfenkdnaanaaGreatDoorAsH
set_option linter.unusedVariables false
set_option linter.unusedSimpArgs false
namespace Go.Proofs.YtobbfenkdnaanaaGreatDoor
open Go.RowKit Go.Maps Go.WideMaps Go.Sort

theorem RowD.form {w : World} {base : Nat} {v : Value} {ys : List AlD} (h : RowD w base v ys) (ho : OwnD w base ys) : ∃ a c, v = .slice a ys.length c ∧ AlsIn w a ys := by
  rcases h.2 with ⟨hnil, hz⟩ | ⟨g, cap, cur, hv, hbase, hb, _⟩
  · exact ⟨none, 0, by rw [hnil, hz], .inl (List.eq_nil_of_length_eq_zero hz)⟩
  · subst hv
    have h' : w.ownsRow base 31 4 (.slice (some ⟨g, 0, none⟩) ys.length cap) ys.length (cellsD ys) := h
    refine ⟨_, _, rfl, .inr ⟨g, 0, rfl, (Array.getElem?_eq_some_iff.1 hb).1, fun i hi => ?_⟩⟩
    obtain ⟨k0, k1, k2, k3⟩ := cellsD_get ys i hi
    obtain ⟨o1, o2, _⟩ := ho _ (List.getElem_mem hi)
    rw [Nat.zero_add]
    exact ⟨(h'.cellAt (i * 4) (by omega)).trans k0, (h'.cellAt (i * 4 + 1) (by omega)).trans k1, (h'.cellAt (i * 4 + 2) (by omega)).trans k2, (h'.cellAt (i * 4 + 3) (by omega)).trans k3, o2, by rw [o1]; exact .inl rfl⟩

def ASQ (w : World) (xs : List AlD) (w' : World) : Prop :=
  Below w.heap.size w w' ∧ w.heap.size + 2 < w'.heap.size ∧ w'.cell? ⟨w.heap.size + 2, 0, none⟩ = some (.bool false) ∧ w'.frozen? ⟨w.heap.size + 2, 0, none⟩ = false ∧ ∃ (ys : List AlD) (P : List (Nat × AlD)) (u : Value), w'.cell? ⟨w.heap.size + 1, 0, none⟩ = some u ∧ w'.frozen? ⟨w.heap.size + 1, 0, none⟩ = false ∧ RowD w' (w.heap.size + 3) u ys ∧ OwnD w' (w.heap.size + 3) ys ∧ ys.map keyD = P.map (fun p => keyD p.2) ∧ (P.map Prod.snd).Perm xs ∧ (Alike P → UpTo P P.length P.length)

set_option maxHeartbeats 1000000 in
set_option maxRecDepth 100000 in
theorem alertsSorted_calls (a : Option Addr) (cap : Nat) (xs : List AlD) (w : World) (hx : AlsIn w a xs) (hg : ∀ x ∈ xs, Good x) (h8 : xs.length ≤ 8) :
    Calls Tryz.prog 29 #[.slice a xs.length cap] w fun e w' => ∃ (a5 : Option Addr) (c5 : Nat) (ys : List AlD) (P : List (Nat × AlD)), e = .returned (.slice a5 ys.length c5) ∧ AlsIn w' a5 ys ∧ ys.map keyD = P.map (fun p => keyD p.2) ∧ (P.map Prod.snd).Perm xs ∧ (Alike P → UpTo P P.length P.length) ∧ Below w.heap.size w w' := by
  have HX := Aside0.mk hx
  have HG := Aside0.mk hg
  clear hx hg
  go_enter Tryz.func29, Tryz.ntmps29
  go_wp2_with fail
  refine (safe_calls2 83 _ _ (ASQ w xs) (fun _ => by simp [go_sem]) ?_ ?_).mono ?_
  · have hk : Below w.heap.size w (((w.alloc (Obj.cells #[Value.slice a xs.length cap] 49)).alloc (Obj.cells #[Value.slice none 0 0] 49)).alloc (Obj.cells #[Value.bool false] 4)) := below_alloc (below_alloc (below_alloc (Below.refl _ _) _) _) _
    have hsz : (((w.alloc (Obj.cells #[Value.slice a xs.length cap] 49)).alloc (Obj.cells #[Value.slice none 0 0] 49)).alloc (Obj.cells #[Value.bool false] 4)).heap.size = w.heap.size + 3 := by simp
    have hc2 : (((w.alloc (Obj.cells #[Value.slice a xs.length cap] 49)).alloc (Obj.cells #[Value.slice none 0 0] 49)).alloc (Obj.cells #[Value.bool false] 4)).cell? ⟨w.heap.size + 2, 0, none⟩ = some (.bool false) := by simp [go_sem]
    have hf2 : (((w.alloc (Obj.cells #[Value.slice a xs.length cap] 49)).alloc (Obj.cells #[Value.slice none 0 0] 49)).alloc (Obj.cells #[Value.bool false] 4)).frozen? ⟨w.heap.size + 2, 0, none⟩ = false := by simp [go_sem]
    refine (as1_calls a cap xs w.heap.size _ (by rw [hsz]; omega) (HX.out.next hk) HG.out h8 (by simp [go_sem]) (by simp [go_sem]) (by simp [go_sem])).mono ?_
    rintro e w' ⟨rfl, ys, P, u, h1, h2, h3, h4, h5, h6, h7, hgb⟩
    rw [hsz] at h3 h4
    refine ⟨rfl, hk.grown hgb (by rw [hsz]; omega) (fun k hk => by cases hk; omega), by have := hgb.size; rw [hsz] at this; omega, (hgb.cell_far ⟨w.heap.size + 2, 0, none⟩ (by rw [hsz]; show w.heap.size + 2 < _; omega) (by simp)).trans hc2, (hgb.frozen_far ⟨w.heap.size + 2, 0, none⟩ (by rw [hsz]; show w.heap.size + 2 < _; omega) (by simp)).trans hf2, ys, P, u, h1, h2, h3, h4, h5, h6, h7⟩
  · rintro w' ⟨_, _, hc, hf, _⟩
    simpa using ⟨hc, hf⟩
  rintro e w2 ⟨rfl, w1, ⟨hb, hs1, _, _, ys, P, u, h1, h2, h3, h4, h5, h6, h7⟩, hgr⟩
  have e5 : ((w.alloc (Obj.cells #[Value.slice a xs.length cap] 49)).alloc (Obj.cells #[Value.slice none 0 0] 49)).heap.size = w.heap.size + 2 := by simp
  rw [e5] at hgr
  have f1 := (hgr.cell_far ⟨w.heap.size + 1, 0, none⟩ (show w.heap.size + 1 < _ by omega) (by simp)).trans h1
  have k1 := (hgr.frozen_far ⟨w.heap.size + 1, 0, none⟩ (show w.heap.size + 1 < _ by omega) (by simp)).trans h2
  have HFF := Aside0.mk (hb.grown hgr (by omega) (fun k hk => by cases hk; omega))
  have hr2 : RowD w2 (w.heap.size + 3) u ys := World.ownsRow.kept h3 hgr (Or.inr fun e => by have := (World.ownsRow.lt h3 _ e).1; omega)
  have ho2 : OwnD w2 (w.heap.size + 3) ys := fun y hy => by
    obtain ⟨o1, o2, gg, o3, o4⟩ := h4 y hy
    rw [o3] at o2
    exact ⟨o1, by rw [o3]; exact o2.kept hgr (by intro e; have := Option.some.inj e; omega), gg, o3, o4⟩
  obtain ⟨a5, c5, hu5, hin5⟩ := hr2.form ho2
  subst hu5
  have HIN := Aside0.mk (And.intro hin5 (And.intro h5 (And.intro h6 h7)))
  have s1 := drewN_setCell_id _ _ _ _ f1
  clear hb hs1 h1 h2 h3 h4 h5 h6 h7 hgr e5 hr2 ho2 hin5
  have s0 := setCell_id _ _ _ _ f1
  go_wp2
  refine bodyPost_ret (v := .slice a5 ys.length c5) (by simp [results, Tryz.results29, go_sem, f1]) rfl ⟨a5, c5, ys, P, rfl, HIN.out.1, HIN.out.2.1, HIN.out.2.2.1, HIN.out.2.2.2, HFF.out⟩
end Go.Proofs.YtobbfenkdnaanaaGreatDoor
