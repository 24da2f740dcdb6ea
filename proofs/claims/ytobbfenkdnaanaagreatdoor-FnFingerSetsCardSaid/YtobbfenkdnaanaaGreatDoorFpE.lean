/- impl.FingerSets, by contract: the call. -/
import Derived.Test.YtobbfenkdnaanaaGreatDoorFpD
set_option linter.unusedVariables false
set_option linter.unusedSimpArgs false
namespace Go.Proofs.YtobbfenkdnaanaaGreatDoor
open Go.RowKit Go.Maps Go.WideMaps Go.Sort

/-- A number's slice that the call hands back. -/
def NumsV (w : World) (v : Value) (l : List Int) : Prop := ∃ a c, v = .slice a l.length c ∧ Nums w a l

theorem RowU.nums {w : World} {base : Nat} {v : Value} {l : List Int} (h : RowU w base v l) : NumsV w v l := by
  by_cases hv : v = .slice none 0 0
  · subst hv
    have := h.nil
    subst this
    exact ⟨none, 0, rfl, .inl rfl⟩
  · obtain ⟨g, c, rfl, hb, hg⟩ := h.form hv
    refine ⟨_, c, rfl, .inr ⟨g, 0, rfl, hg, fun i hi => ?_⟩⟩
    have h1 := ((rowU_holds h).1 i (by simpa using hi)).1
    rw [h1]
    simp [hi]

/-- What the call inside safe leaves, with safe's own box. -/
def FsR (w W : World) (la lb : List Int) (w' : World) : Prop :=
  FsQ w W la lb w' ∧ w'.cell? ⟨w.heap.size + 4, 0, none⟩ = some (.bool false) ∧ w'.frozen? ⟨w.heap.size + 4, 0, none⟩ = false

/-- What FingerSets hands back. -/
def FsE (w : World) (la lb : List Int) (e : Ending) (w' : World) : Prop :=
  ∃ v ds, e = .returned (.tuple #[.bool (decide ((∀ x ∈ la, x ∈ lb) ∧ (∀ x ∈ lb, x ∈ la))), v]) ∧ NumsV w' v ds ∧ ds.Pairwise (· < ·) ∧ (∀ x, x ∈ ds ↔ x ∈ la ∧ x ∈ lb) ∧ Below w.heap.size w w'

set_option maxHeartbeats 2000000 in
set_option maxRecDepth 100000 in
theorem fs_calls (a a' : Option Addr) (cap cap' : Nat) (la lb : List Int) (w : World) (hla : Nums w a la) (hlb : Nums w a' lb)
    (ha20 : la.length ≤ 20) (hb20 : lb.length ≤ 20) (hwa : ∀ x ∈ la, In64 x) (hwb : ∀ x ∈ lb, In64 x) :
    Calls Tryz.prog 25 #[.slice a la.length cap, .slice a' lb.length cap'] w (fun e w' => FsE w la lb e w') := by
  have HL := Aside0.mk (And.intro hla hlb)
  have HO := Aside0.mk (And.intro ha20 (And.intro hb20 (And.intro hwa hwb)))
  clear hla hlb ha20 hb20 hwa hwb
  go_enter Tryz.func25, Tryz.ntmps25
  go_wp2_with fail
  obtain ⟨W, hW⟩ : ∃ W : World, W = (((((w.alloc (Obj.cells #[Value.slice a la.length cap] 39)).alloc (Obj.cells #[Value.slice a' lb.length cap'] 39)).alloc (Obj.cells #[Value.bool false] 4)).alloc (Obj.cells #[Value.slice none 0 0] 39)).alloc (Obj.cells #[Value.bool false] 4)) := ⟨_, rfl⟩
  refine (safe_calls2 70 _ _ (FsR w W la lb) (fun _ => by simp [go_sem]) ?_ ?_).mono ?_
  · have hk : Below w.heap.size w W := by rw [hW]; exact below_alloc (below_alloc (below_alloc (below_alloc (below_alloc (Below.refl _ _) _) _) _) _) _
    have hc4 : W.cell? ⟨w.heap.size + 4, 0, none⟩ = some (.bool false) := by rw [hW]; simp [go_sem]
    have hf4 : W.frozen? ⟨w.heap.size + 4, 0, none⟩ = false := by rw [hW]; simp [go_sem]
    have hsz : W.heap.size = w.heap.size + 5 := by rw [hW]; simp
    rw [← hW]
    refine (fs1_calls a a' cap cap' la lb w W hk (by omega) HL.out.1 HL.out.2 HO.out.1 HO.out.2.1 HO.out.2.2.1 HO.out.2.2.2 (by rw [hW]; simp [go_sem]) (by rw [hW]; simp [go_sem]) (by rw [hW]; simp [go_sem]) (by rw [hW]; simp [go_sem]) (by rw [hW]; simp [go_sem]) (by rw [hW]; simp [go_sem])).mono ?_
    rintro e w' ⟨rfl, hq⟩
    obtain ⟨v, ds, hb, _⟩ := id hq
    have hb4 := hb.far (w.heap.size + 4) (Nat.le_refl _) (by omega)
    exact ⟨rfl, hq, (World.cell?_of_block (a := ⟨w.heap.size + 4, 0, none⟩) hb4).trans hc4, (World.frozen?_of_block (a := ⟨w.heap.size + 4, 0, none⟩) hb4).trans hf4⟩
  · rintro w' ⟨_, hc, hf⟩
    simpa using ⟨hc, hf⟩
  rintro e w2 ⟨rfl, w1, ⟨⟨v, ds, hb, hr, hasc, hmem⟩, _, _⟩, hgr⟩
  have hszW : W.heap.size = w.heap.size + 5 := by rw [hW]; simp
  have e4 : ((((w.alloc (Obj.cells #[Value.slice a la.length cap] 39)).alloc (Obj.cells #[Value.slice a' lb.length cap'] 39)).alloc (Obj.cells #[Value.bool false] 4)).alloc (Obj.cells #[Value.slice none 0 0] 39)).heap.size = w.heap.size + 4 := by simp
  rw [e4] at hgr
  have hsz1 := hb.size
  have f2 := (hgr.cell_far ⟨w.heap.size + 2, 0, none⟩ (show w.heap.size + 2 < _ by omega) (by simp)).trans hb.c2
  have f3 := (hgr.cell_far ⟨w.heap.size + 3, 0, none⟩ (show w.heap.size + 3 < _ by omega) (by simp)).trans hb.c3
  have k2 := (hgr.frozen_far ⟨w.heap.size + 2, 0, none⟩ (show w.heap.size + 2 < _ by omega) (by simp)).trans hb.f2
  have k3 := (hgr.frozen_far ⟨w.heap.size + 3, 0, none⟩ (show w.heap.size + 3 < _ by omega) (by simp)).trans hb.f3
  rw [eqU_mkU] at f2
  obtain ⟨eb, heb⟩ : ∃ eb : Bool, eb = decide ((∀ x ∈ la, x ∈ lb) ∧ (∀ x ∈ lb, x ∈ la)) := ⟨_, rfl⟩
  rw [← heb] at f2
  have HEB := Aside0.mk heb
  have hrow2 : RowU w2 W.heap.size v ds := World.ownsRow.kept hr hgr (Or.inr fun e => by have := (World.ownsRow.lt hr _ e).1; omega)
  have HFF := Aside0.mk (hb.below.grown hgr (by omega) (fun k hk => by cases hk; omega))
  have HNV := Aside0.mk (And.intro hrow2.nums (And.intro hasc hmem))
  have hv : v = .slice none 0 0 ∨ ∃ g c, v = .slice (some ⟨g, 0, none⟩) ds.length c := by
    by_cases hv : v = .slice none 0 0
    · exact .inl hv
    · obtain ⟨g, c, h, _, _⟩ := hrow2.form hv
      exact .inr ⟨g, c, h⟩
  have s2 := drewN_setCell_id _ _ _ _ f2
  have s3 := drewN_setCell_id _ _ _ _ f3
  have hbw : ∀ n, Below w.heap.size w (w2.drewN n) := fun n => below_drewN HFF.out _
  have HBW := Aside0.mk hbw
  clear hb hr hasc hmem hgr e4 hsz1 hszW hrow2 hbw hW heb
  rcases hv with rfl | ⟨g, c, rfl⟩
  · go_wp2
    go_quiet (fail)
    go_wp2
    refine bodyPost_ret (v := .tuple #[.bool eb, .slice none 0 0]) (by simp [results, Tryz.results25, go_sem, f2, f3]) rfl ⟨_, ds, by rw [HEB.out], ?_, HNV.out.2.1, HNV.out.2.2, HBW.out _⟩
    obtain ⟨a0, c0, h1, h2⟩ := HNV.out.1
    exact ⟨a0, c0, h1, h2⟩
  · go_wp2
    go_quiet (fail)
    go_wp2
    refine bodyPost_ret (v := .tuple #[.bool eb, .slice (some ⟨g, 0, none⟩) ds.length c]) (by simp [results, Tryz.results25, go_sem, f2, f3]) rfl ⟨_, ds, by rw [HEB.out], ?_, HNV.out.2.1, HNV.out.2.2, HBW.out _⟩
    obtain ⟨a0, c0, h1, h2⟩ := HNV.out.1
    exact ⟨a0, c0, h1, h2⟩
end Go.Proofs.YtobbfenkdnaanaaGreatDoor
