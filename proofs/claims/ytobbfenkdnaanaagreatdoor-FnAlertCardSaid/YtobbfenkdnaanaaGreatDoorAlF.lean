/- impl.AlertAbout whole, zzFits9, the reference's AlertValid, by contract. -/
import Derived.Test.YtobbfenkdnaanaaGreatDoorAlE
set_option linter.unusedVariables false
set_option linter.unusedSimpArgs false
namespace Go.Proofs.YtobbfenkdnaanaaGreatDoor
open Go.RowKit Go.Maps Go.WideMaps Go.Sort

/-- What the call inside safe leaves. -/
def AAQ (w : World) (v0 v1 v2 v3 v4 : Value) (w' : World) : Prop :=
  Below w.heap.size w w' ∧ w.heap.size + 3 < w'.heap.size ∧ w'.cell? ⟨w.heap.size + 2, 0, none⟩ = some v0 ∧ w'.cell? ⟨w.heap.size + 2, 1, none⟩ = some v1 ∧ w'.cell? ⟨w.heap.size + 2, 2, none⟩ = some v2 ∧
    w'.cell? ⟨w.heap.size + 2, 3, none⟩ = some v3 ∧ w'.cell? ⟨w.heap.size + 2, 4, none⟩ = some v4 ∧ (∀ i, i ≤ 4 → w'.frozen? ⟨w.heap.size + 2, i, none⟩ = false) ∧
    w'.cell? ⟨w.heap.size + 3, 0, none⟩ = some (.bool false) ∧ w'.frozen? ⟨w.heap.size + 3, 0, none⟩ = false

set_option maxHeartbeats 1000000 in
set_option maxRecDepth 100000 in
theorem about_calls (a a' : Option Addr) (cap cap' : Nat) (la lb : LL) (s e t : Int) (w : World) (hla : Labs w a la) (hlb : Labs w a' lb) (hoa : Once la) (hob : Once lb) (hsa : Sized la) (hsb : Sized lb) (hT : Tabs w)
    (hs0 : 0 ≤ s) (hs1 : s ≤ 8589934592) (he0 : 0 ≤ e) (he1 : e ≤ 8589934592) (ht0 : 0 ≤ t) (ht1 : t ≤ 8589934592) :
    Calls Tryz.prog 21 #[.agg #[.slice a la.length cap, .slice a' lb.length cap', .int .i64 s, .int .i64 e], .int .i64 t] w fun r w' => r = .returned (.agg #[.bool (resB (momS e) (t + 62135596800)), .string (statV (resB (momS e) (t + 62135596800))), .string (anameV la), .int .u64 (fingH la), .bool (alB (momS s) (momS e) la lb)]) ∧ Below w.heap.size w w' := by
  have HL := Aside0.mk (And.intro hla hlb)
  have HO := Aside0.mk (And.intro hoa (And.intro hob (And.intro hsa hsb)))
  have HT := Aside0.mk hT
  have HS := Aside0.mk (And.intro hs0 (And.intro hs1 (And.intro he0 (And.intro he1 (And.intro ht0 ht1)))))
  clear hla hlb hoa hob hsa hsb hT hs0 hs1 he0 he1 ht0 ht1
  obtain ⟨v0, hv0⟩ : ∃ v0, resB (momS e) (t + 62135596800) = v0 := ⟨_, rfl⟩
  obtain ⟨v2, hv2⟩ : ∃ v2, anameV la = v2 := ⟨_, rfl⟩
  obtain ⟨v3, hv3⟩ : ∃ v3, fingH la = v3 := ⟨_, rfl⟩
  obtain ⟨v4, hv4⟩ : ∃ v4, alB (momS s) (momS e) la lb = v4 := ⟨_, rfl⟩
  rw [hv0, hv2, hv3, hv4]
  obtain ⟨v1, hv1⟩ : ∃ v1, statV v0 = v1 := ⟨_, rfl⟩
  rw [hv1]
  have HV := Aside0.mk (And.intro hv0 (And.intro hv1 (And.intro hv2 (And.intro hv3 hv4))))
  clear hv0 hv1 hv2 hv3 hv4
  go_enter Tryz.func21, Tryz.ntmps21
  go_wp2_with fail
  refine (safe_calls 57 _ _ (AAQ w (.bool v0) (.string v1) (.string v2) (.int .u64 v3) (.bool v4)) (fun _ => by simp [go_sem]) ?_ ?_).mono ?_
  · have hk : Below w.heap.size w ((((w.alloc (Obj.cells #[Value.slice a la.length cap, Value.slice a' lb.length cap', Value.int IntKind.i64 s, Value.int IntKind.i64 e] 31)).alloc (Obj.cells #[Value.int IntKind.i64 t] 2)).alloc (Obj.cells #[Value.bool false, Value.string ⟨#[]⟩, Value.string ⟨#[]⟩, Value.int IntKind.u64 0, Value.bool false] 34)).alloc (Obj.cells #[Value.bool false] 4)) :=
      below_alloc (below_alloc (below_alloc (below_alloc (Below.refl _ _) _) _) _) _
    refine (alert1_calls a a' cap cap' la lb s e t w.heap.size _ (by simp) (HL.out.1.next hk) (HL.out.2.next hk) HO.out.1 HO.out.2.1 HO.out.2.2.1 HO.out.2.2.2 (HT.out.next hk) HS.out.1 HS.out.2.1 HS.out.2.2.1 HS.out.2.2.2.1 HS.out.2.2.2.2.1 HS.out.2.2.2.2.2 (by simp [go_sem]) (by simp [go_sem]) (by simp [go_sem]) (by simp [go_sem]) (by simp [go_sem]) (by simp [go_sem]) (by simp [go_sem]) (by simp [go_sem]) (by simp [go_sem]) (by simp [go_sem]) (by simp [go_sem]) (by simp [go_sem]) (by simp [go_sem]) (by simp [go_sem]) (by simp [go_sem])).mono ?_
    rw [HV.out.1, HV.out.2.1, HV.out.2.2.1, HV.out.2.2.2.1, HV.out.2.2.2.2]
    rintro r w' ⟨rfl, w1, hb, rfl⟩
    have e0 := hb.cell (p := ⟨w.heap.size + 2, 0, none⟩) (by simp)
    have e1 := hb.cell (p := ⟨w.heap.size + 2, 1, none⟩) (by simp)
    have e2 := hb.cell (p := ⟨w.heap.size + 2, 2, none⟩) (by simp)
    have e3 := hb.cell (p := ⟨w.heap.size + 2, 3, none⟩) (by simp)
    have e4 := hb.cell (p := ⟨w.heap.size + 2, 4, none⟩) (by simp)
    have e7 := hb.cell (p := ⟨w.heap.size + 3, 0, none⟩) (by simp)
    have f0 := hb.frozen (p := ⟨w.heap.size + 2, 0, none⟩) (by simp)
    have f1 := hb.frozen (p := ⟨w.heap.size + 2, 1, none⟩) (by simp)
    have f2 := hb.frozen (p := ⟨w.heap.size + 2, 2, none⟩) (by simp)
    have f3 := hb.frozen (p := ⟨w.heap.size + 2, 3, none⟩) (by simp)
    have f4 := hb.frozen (p := ⟨w.heap.size + 2, 4, none⟩) (by simp)
    have f7 := hb.frozen (p := ⟨w.heap.size + 3, 0, none⟩) (by simp)
    have e9 := hb.size
    simp [go_sem] at e0 e1 e2 e3 e4 e7 f0 f1 f2 f3 f4 f7 e9
    have hb' := below_step hk hb
    refine ⟨rfl, ((((hb'.setCell (p := ⟨w.heap.size + 2, 0, none⟩) (by simp) _).setCell (p := ⟨w.heap.size + 2, 1, none⟩) (by simp) _).setCell (p := ⟨w.heap.size + 2, 2, none⟩) (by simp) _).setCell (p := ⟨w.heap.size + 2, 3, none⟩) (by simp) _).setCell (p := ⟨w.heap.size + 2, 4, none⟩) (by simp) _, by simp [World.setCell]; omega, ?_, ?_, ?_, ?_, ?_, ?_, ?_, ?_⟩
    · simp [go_sem, e0, e1, e2, e3, e4]
    · simp [go_sem, e0, e1, e2, e3, e4]
    · simp [go_sem, e0, e1, e2, e3, e4]
    · simp [go_sem, e0, e1, e2, e3, e4]
    · simp [go_sem, e0, e1, e2, e3, e4]
    · intro i h1
      rcases (show i = 0 ∨ i = 1 ∨ i = 2 ∨ i = 3 ∨ i = 4 by omega) with rfl | rfl | rfl | rfl | rfl
      · simp [go_sem, f0]
      · simp [go_sem, f1]
      · simp [go_sem, f2]
      · simp [go_sem, f3]
      · simp [go_sem, f4]
    · simp [go_sem, e7]
    · simp [go_sem, f7]
  · rintro w' ⟨_, _, _, _, _, _, _, _, hc, hf⟩
    simpa using ⟨hc, hf⟩
  rintro r w2 ⟨rfl, w1, ⟨hb, hs1, h0, h1, h2, h3, h4, hf, _, _⟩, hb2⟩
  have f0 := (hb2.cell (p := ⟨w.heap.size + 2, 0, none⟩) (by simp)).trans h0
  have f1 := (hb2.cell (p := ⟨w.heap.size + 2, 1, none⟩) (by simp)).trans h1
  have f2 := (hb2.cell (p := ⟨w.heap.size + 2, 2, none⟩) (by simp)).trans h2
  have f3 := (hb2.cell (p := ⟨w.heap.size + 2, 3, none⟩) (by simp)).trans h3
  have f4 := (hb2.cell (p := ⟨w.heap.size + 2, 4, none⟩) (by simp)).trans h4
  have k0 := (hb2.frozen (p := ⟨w.heap.size + 2, 0, none⟩) (by simp)).trans (hf 0 (by omega))
  have k1 := (hb2.frozen (p := ⟨w.heap.size + 2, 1, none⟩) (by simp)).trans (hf 1 (by omega))
  have k2 := (hb2.frozen (p := ⟨w.heap.size + 2, 2, none⟩) (by simp)).trans (hf 2 (by omega))
  have k3 := (hb2.frozen (p := ⟨w.heap.size + 2, 3, none⟩) (by simp)).trans (hf 3 (by omega))
  have k4 := (hb2.frozen (p := ⟨w.heap.size + 2, 4, none⟩) (by simp)).trans (hf 4 (by omega))
  have HFF := Aside0.mk (hb.trans (hb2.mono (by simp; omega)))
  have s0 := setCell_id _ _ _ _ f0
  have s1 := setCell_id _ _ _ _ f1
  have s2 := setCell_id _ _ _ _ f2
  have s3 := setCell_id _ _ _ _ f3
  have s4 := setCell_id _ _ _ _ f4
  clear hb hs1 h0 h1 h2 h3 h4 hf hb2
  go_wp2
  refine bodyPost_ret (v := .agg #[.bool v0, .string v1, .string v2, .int .u64 v3, .bool v4]) (by simp [results, Tryz.results21, go_sem, f0, f1, f2, f3, f4]) rfl ⟨rfl, HFF.out⟩

theorem alert_dummy : True := trivial
end Go.Proofs.YtobbfenkdnaanaaGreatDoor
