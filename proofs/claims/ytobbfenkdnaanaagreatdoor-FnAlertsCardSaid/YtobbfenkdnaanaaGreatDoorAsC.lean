/- Alerts.HasFiringAt, StatusAt, by contract. impl.AlertsAt, by contract. Alerts.Less, Swap, Len, by contract. Alerts.Swap, by contract. impl.arrange over alerts, by contract. -/
import Derived.Test.YtobbfenkdnaanaaGreatDoorAsB
import Derived.Deep.RegionHeld3
import Derived.RowKit
import Derived.RegionTactic
import Derived.Handy
set_option linter.unusedVariables false
set_option linter.unusedSimpArgs false
namespace Go.Proofs.YtobbfenkdnaanaaGreatDoor
open Go.RowKit Go.Maps Go.WideMaps Go.Sort

/-- Whether one is firing. -/
def fireB (P : List (Nat × AlD)) (t : Int) : Bool := P.any fun p => !resB (momS p.2.e) t
theorem RowP.form {w : World} {base : Nat} {v : Value} {P : List (Nat × AlD)} (h : RowP w base v P) : ∃ a c, v = .slice a P.length c ∧ (∀ j (hj : j < P.length), ∃ g, a = some ⟨g, 0, none⟩ ∧ g < w.heap.size ∧ w.cell? ⟨g, j, none⟩ = some (.pointer (some ⟨(P[j]'hj).1, 0, none⟩))) := by
  rcases h.2 with ⟨hnil, hz⟩ | ⟨g, cap, cur, hv, hbase, hb, _⟩
  · exact ⟨none, 0, by rw [hnil, hz], fun j hj => by omega⟩
  · subst hv
    exact ⟨_, _, rfl, fun j hj => ⟨g, rfl, (Array.getElem?_eq_some_iff.1 hb).1, h.cell j hj⟩⟩

set_option maxHeartbeats 2000000 in
set_option maxRecDepth 100000 in
theorem hasFiring_calls (base : Nat) (v : Value) (P : List (Nat × AlD)) (t : Int) (w : World) (hr : RowP w base v P) (ha : AlsAt w P) (h8 : P.length ≤ 8) :
    Calls Tryz.prog 89 #[v, .agg #[.int .i64 t, .int .i64 0]] w fun e w' => e = .returned (.bool (fireB P t)) ∧ Below w.heap.size w w' := by
  obtain ⟨a, c, rfl, hcl⟩ := hr.form
  have HC := Aside0.mk hcl
  have HA := Aside0.mk ha
  have HK := Aside0.mk (below_alloc (Below.refl w.heap.size w) (Obj.cells #[Value.int IntKind.i64 t, Value.int IntKind.i64 0] 85))
  clear hr ha hcl
  go_enter Tryz.func89, Tryz.ntmps89
  go_wp2_with fail
  go_loopg [9] (P.length + 1) (fun g v9 w' => ∃ i : Nat, v9 = .int .i64 (i : Int) ∧ i + g = P.length + 1 ∧ i ≤ P.length ∧ Aside0 (fireB (P.take i) t = false) ∧ Aside0 (Below (w.alloc (Obj.cells #[Value.int IntKind.i64 t, Value.int IntKind.i64 0] 85)).heap.size (w.alloc (Obj.cells #[Value.int IntKind.i64 t, Value.int IntKind.i64 0] 85)) w'))
  case atStart => exact ⟨0, rfl, by omega, by omega, ⟨rfl⟩, ⟨Below.refl _ _⟩⟩
  case round =>
    obtain ⟨i, rfl, hig, hile, HF, HB⟩ := hrel
    have HBW := Aside0.mk (below_step HK.out HB.out)
    by_cases hlt : i < P.length
    · obtain ⟨g1, rfl⟩ : ∃ m, gk = m + 1 := ⟨gk - 1, by omega⟩
      obtain ⟨g, ha, hgl, hcell⟩ := HC.out i hlt
      subst ha
      have c0 := (HBW.out.cell (p := ⟨g, i, none⟩) hgl).trans hcell
      have t0 := (HB.out.cell (p := ⟨w.heap.size, 0, none⟩) (by simp)).trans (show (w.alloc (Obj.cells #[Value.int IntKind.i64 t, Value.int IntKind.i64 0] 85)).cell? _ = some (.int .i64 t) by simp [go_sem])
      have t1 := (HB.out.cell (p := ⟨w.heap.size, 1, none⟩) (by simp)).trans (show (w.alloc (Obj.cells #[Value.int IntKind.i64 t, Value.int IntKind.i64 0] 85)).cell? _ = some (.int .i64 0) by simp [go_sem])
      obtain ⟨b1, b2, hal, _, _⟩ := HA.out _ (List.getElem_mem hlt)
      have HAL := Aside0.mk (hal.next HBW.out)
      obtain ⟨p, hp⟩ : ∃ p, P[i]'hlt = p := ⟨_, rfl⟩
      rw [hp] at c0 HAL
      have HTK := Aside0.mk (show P.take (i + 1) = P.take i ++ [p] by rw [List.take_succ_eq_append_getElem hlt, hp])
      have HMEM := Aside0.mk (show p ∈ P by rw [← hp]; exact List.getElem_mem hlt)
      clear hcell hgl hal hp
      go_wp2_with fail
      refine (resolved_calls p.1 b1 b2 (momS p.2.s) (momS p.2.e) t _ HAL.out).mono ?_
      rintro r w1 ⟨rfl, hb1⟩
      have HB1 := Aside0.mk (below_step HB.out hb1); clear hb1
      cases hv : resB (momS p.2.e) t with
      | true =>
        have HV := Aside0.mk hv
        clear hv
        go_wp2_with fail
        go_roundg g1
        case measure => omega
        case rel => exact ⟨i + 1, by go_num, by omega, by omega, ⟨by
          have h1 := HF.out
          unfold fireB at h1 ⊢
          rw [HTK.out, List.any_append, h1]
          simp [HV.out]⟩, HB1⟩
      | false =>
        have HV := Aside0.mk hv
        clear hv
        go_wp2
        go_ret
        refine ⟨?_, below_step HK.out HB1.out⟩
        have : fireB P t = true := by
          unfold fireB
          rw [List.any_eq_true]
          exact ⟨p, HMEM.out, by simp [HV.out]⟩
        rw [this]; rfl
    · have HE := Aside0.mk (show fireB P t = false by have h1 := HF.out; rwa [show i = P.length by omega, List.take_length] at h1)
      clear hig hile
      go_wp2_with fail
      go_ret
      exact ⟨by rw [HE.out]; rfl, HBW.out⟩

set_option maxHeartbeats 2000000 in
set_option maxRecDepth 100000 in
theorem alertsStatus_calls (base : Nat) (v : Value) (P : List (Nat × AlD)) (t : Int) (w : World) (hr : RowP w base v P) (ha : AlsAt w P) (h8 : P.length ≤ 8) :
    Calls Tryz.prog 90 #[v, .agg #[.int .i64 t, .int .i64 0]] w fun e w' => e = .returned (.string (statV (!fireB P t))) ∧ Below w.heap.size w w' := by
  have HK := Aside0.mk (below_alloc (Below.refl w.heap.size w) (Obj.cells #[Value.int IntKind.i64 t, Value.int IntKind.i64 0] 85))
  have HH := Aside0.mk (hasFiring_calls base v P t _ (hr.next HK.out) (ha.next HK.out) h8)
  clear hr ha
  go_enter Tryz.func90, Tryz.ntmps90
  go_wp2_with fail
  refine HH.out.mono ?_
  rintro r w1 ⟨rfl, hb1⟩
  have HB1 := Aside0.mk (below_step HK.out hb1); clear hb1
  cases hv : fireB P t with
  | true =>
    have HV := Aside0.mk hv
    clear hv
    go_wp2
    go_ret
    exact ⟨by rw [HV.out]; rfl, HB1.out⟩
  | false =>
    have HV := Aside0.mk hv
    clear hv
    go_wp2
    go_ret
    exact ⟨by rw [HV.out]; rfl, HB1.out⟩
end Go.Proofs.YtobbfenkdnaanaaGreatDoor

namespace Go.Proofs.YtobbfenkdnaanaaGreatDoor
open Go.RowKit Go.Maps Go.WideMaps Go.Sort

def fireX (xs : List AlD) (t : Int) : Bool := xs.any fun x => !resB (momS x.e) t
theorem fireB_is {P : List (Nat × AlD)} {xs : List AlD} (h : P.map Prod.snd = xs) (t : Int) : fireB P t = fireX xs t := by
  subst h
  unfold fireB fireX
  rw [List.any_map]
  rfl

set_option maxHeartbeats 2000000 in
set_option maxRecDepth 100000 in
theorem aa1_calls (a : Option Addr) (cap : Nat) (xs : List AlD) (t : Int) (n : Nat) (W : World) (hn : n + 4 ≤ W.heap.size) (hx : AlsIn W a xs) (hg : ∀ x ∈ xs, Good x) (h8 : xs.length ≤ 8) (ht0 : 0 ≤ t) (ht1 : t ≤ 8589934592)
    (c0 : W.cell? ⟨n, 0, none⟩ = some (.slice a xs.length cap)) (c1 : W.cell? ⟨n + 1, 0, none⟩ = some (.int .i64 t)) (c2 : W.cell? ⟨n + 2, 0, none⟩ = some (.bool false)) (c3 : W.cell? ⟨n + 3, 0, none⟩ = some (.string ⟨#[]⟩))
    (f2 : W.frozen? ⟨n + 2, 0, none⟩ = false) (f3 : W.frozen? ⟨n + 3, 0, none⟩ = false) :
    Calls Tryz.prog 88 #[.pointer (some ⟨n, 0, none⟩), .pointer (some ⟨n + 1, 0, none⟩), .pointer (some ⟨n + 2, 0, none⟩), .pointer (some ⟨n + 3, 0, none⟩)] W fun e w' =>
      e = .returned (.tuple #[]) ∧ ∃ w1, Below W.heap.size W w1 ∧ w' = (w1.setCell ⟨n + 2, 0, none⟩ (.bool (fireX xs (t + 62135596800)))).setCell ⟨n + 3, 0, none⟩ (.string (statV (!fireX xs (t + 62135596800)))) := by
  have HX := Aside0.mk hx
  have HG := Aside0.mk hg
  have HN := Aside0.mk hn
  have HC := Aside0.mk (And.intro c1 (And.intro c2 (And.intro c3 (And.intro f2 f3))))
  clear hx hg hn c1 c2 c3 f2 f3
  go_enter Tryz.func88, Tryz.ntmps88
  go_wp2_with fail
  refine (alerts_calls a cap xs _ HX.out HG.out h8).mono ?_
  rintro e w1 ⟨v, P, rfl, hP, hrow, hat, _, hb1⟩
  have HB1 := Aside0.mk hb1
  have HR1 := Aside0.mk (And.intro hrow (And.intro hat (And.intro hP (show P.length ≤ 8 by rw [← List.length_map (f := Prod.snd), hP]; exact h8))))
  have e1 := (hb1.cell (p := ⟨n + 1, 0, none⟩) (by have := HN.out; show n + 1 < _; omega)).trans HC.out.1
  clear hP hrow hat hb1
  go_wp2_with fail
  have HBD := Aside0.mk HB1.out.drew
  have HAR := Aside0.mk (show ∀ W', Below w1.heap.size w1 W' → RowP W' W.heap.size v P ∧ AlsAt W' P from fun W' hb => ⟨HR1.out.1.next hb, HR1.out.2.1.next hb⟩)
  have HCT := Aside0.mk (show ∀ W', Below W.heap.size W W' → W'.cell? ⟨n + 1, 0, none⟩ = some (.int .i64 t) from fun W' hb => (hb.cell (p := ⟨n + 1, 0, none⟩) (by have := HN.out; show n + 1 < _; omega)).trans HC.out.1)
  have HFB := Aside0.mk (fireB_is HR1.out.2.2.1 (t + 62135596800))
  have hb0 := (Below.refl w1.heap.size w1).drew
  have HB0 := Aside0.mk hb0
  clear hb0 e1
  have e1 := HCT.out _ HBD.out
  go_region_held3 (fun W' : World => W'.cell? ⟨n + 1, 0, none⟩ = some (.int .i64 t)) (first | assumption | go_keep) (first
    | (go_at_call 59; refine Calls.mono (unix_calls t ht0 ht1 _) ?_; rintro e w4 ⟨rfl, hb4⟩; have HB4 := Aside0.mk (below_step HB3.out hb4); have HW4 := Aside0.mk (below_step HB1.out HB4.out); have e4 := HCT.out _ HW4.out; clear hb4)
    | (go_at_call 59; refine Calls.mono (unix_calls t ht0 ht1 _) ?_; rintro e w2 ⟨rfl, hb2⟩; have HB2 := Aside0.mk (below_step HB0.out hb2); have HW2 := Aside0.mk (below_step HBD.out hb2); have e2 := HCT.out _ HW2.out; clear hb2)
    | (go_at_call 89; refine Calls.mono (hasFiring_calls W.heap.size v P (t + 62135596800) _ (HAR.out _ HB2.out).1 (HAR.out _ HB2.out).2 HR1.out.2.2.2) ?_; rintro e w3 ⟨rfl, hb3⟩; have HB3 := Aside0.mk (below_step HB2.out hb3); have HW3 := Aside0.mk (below_step HW2.out hb3); have e3 := HCT.out _ HW3.out; clear hb3)
    | (go_at_call 90; refine Calls.mono (alertsStatus_calls W.heap.size v P (t + 62135596800) _ (HAR.out _ HB4.out).1 (HAR.out _ HB4.out).2 HR1.out.2.2.2) ?_; rintro e w5 ⟨rfl, hb5⟩; have HW5 := Aside0.mk (below_step HW4.out hb5); have e5 := HCT.out _ HW5.out; have y2 := (HW5.out.cell (p := ⟨n + 2, 0, none⟩) (by have := HN.out; show n + 2 < _; omega)).trans HC.out.2.1; have y3 := (HW5.out.cell (p := ⟨n + 3, 0, none⟩) (by have := HN.out; show n + 3 < _; omega)).trans HC.out.2.2.1; have y4 := (HW5.out.frozen (p := ⟨n + 2, 0, none⟩) (by have := HN.out; show n + 2 < _; omega)).trans HC.out.2.2.2.1; have y5 := (HW5.out.frozen (p := ⟨n + 3, 0, none⟩) (by have := HN.out; show n + 3 < _; omega)).trans HC.out.2.2.2.2; clear hb5))
  go_wp2
  go_end0
  exact ⟨rfl, w5, HW5.out, by rw [HFB.out]⟩

/-- What the call inside safe leaves. -/
def ATQ (w : World) (f : Bool) (st : ByteArray) (w' : World) : Prop :=
  Below w.heap.size w w' ∧ w.heap.size + 4 < w'.heap.size ∧ w'.cell? ⟨w.heap.size + 2, 0, none⟩ = some (.bool f) ∧ w'.cell? ⟨w.heap.size + 3, 0, none⟩ = some (.string st) ∧ w'.frozen? ⟨w.heap.size + 2, 0, none⟩ = false ∧ w'.frozen? ⟨w.heap.size + 3, 0, none⟩ = false ∧
    w'.cell? ⟨w.heap.size + 4, 0, none⟩ = some (.bool false) ∧ w'.frozen? ⟨w.heap.size + 4, 0, none⟩ = false

set_option maxHeartbeats 1000000 in
set_option maxRecDepth 100000 in
theorem alertsAt_calls (a : Option Addr) (cap : Nat) (xs : List AlD) (t : Int) (w : World) (hx : AlsIn w a xs) (hg : ∀ x ∈ xs, Good x) (h8 : xs.length ≤ 8) (ht0 : 0 ≤ t) (ht1 : t ≤ 8589934592) :
    Calls Tryz.prog 30 #[.slice a xs.length cap, .int .i64 t] w fun e w' => e = .returned (.tuple #[.bool (fireX xs (t + 62135596800)), .string (statV (!fireX xs (t + 62135596800)))]) ∧ Below w.heap.size w w' := by
  have HX := Aside0.mk hx
  have HG := Aside0.mk hg
  clear hx hg
  go_enter Tryz.func30, Tryz.ntmps30
  go_wp2_with fail
  refine (safe_calls 88 _ _ (ATQ w (fireX xs (t + 62135596800)) (statV (!fireX xs (t + 62135596800)))) (fun _ => by simp [go_sem]) ?_ ?_).mono ?_
  · have hk : Below w.heap.size w (((((w.alloc (Obj.cells #[Value.slice a xs.length cap] 49)).alloc (Obj.cells #[Value.int IntKind.i64 t] 2)).alloc (Obj.cells #[Value.bool false] 4)).alloc (Obj.cells #[Value.string ⟨#[]⟩] 9)).alloc (Obj.cells #[Value.bool false] 4)) :=
      below_alloc (below_alloc (below_alloc (below_alloc (below_alloc (Below.refl _ _) _) _) _) _) _
    refine (aa1_calls a cap xs t w.heap.size _ (by simp) (HX.out.next hk) HG.out h8 ht0 ht1 (by simp [go_sem]) (by simp [go_sem]) (by simp [go_sem]) (by simp [go_sem]) (by simp [go_sem]) (by simp [go_sem])).mono ?_
    rintro e w' ⟨rfl, w1, hb, rfl⟩
    have e2 := hb.cell (p := ⟨w.heap.size + 2, 0, none⟩) (by simp)
    have e3 := hb.cell (p := ⟨w.heap.size + 3, 0, none⟩) (by simp)
    have e4 := hb.cell (p := ⟨w.heap.size + 4, 0, none⟩) (by simp)
    have f2 := hb.frozen (p := ⟨w.heap.size + 2, 0, none⟩) (by simp)
    have f3 := hb.frozen (p := ⟨w.heap.size + 3, 0, none⟩) (by simp)
    have f4 := hb.frozen (p := ⟨w.heap.size + 4, 0, none⟩) (by simp)
    have e9 := hb.size
    simp [go_sem] at e2 e3 e4 f2 f3 f4 e9
    have hb' := below_step hk hb
    refine ⟨rfl, (hb'.setCell (p := ⟨w.heap.size + 2, 0, none⟩) (by simp) _).setCell (p := ⟨w.heap.size + 3, 0, none⟩) (by simp) _, by simp [World.setCell]; omega, ?_, ?_, ?_, ?_, ?_, ?_⟩
    · simp [go_sem, e2]
    · simp [go_sem, e3]
    · simp [go_sem, f2]
    · simp [go_sem, f3]
    · simp [go_sem, e4]
    · simp [go_sem, f4]
  · rintro w' ⟨_, _, _, _, _, _, hc, hf⟩
    simpa using ⟨hc, hf⟩
  rintro e w2 ⟨rfl, w1, ⟨hb, hs1, h2, h3, hf2, hf3, _, _⟩, hb2⟩
  have f2 := (hb2.cell (p := ⟨w.heap.size + 2, 0, none⟩) (by simp)).trans h2
  have f3 := (hb2.cell (p := ⟨w.heap.size + 3, 0, none⟩) (by simp)).trans h3
  have k2 := (hb2.frozen (p := ⟨w.heap.size + 2, 0, none⟩) (by simp)).trans hf2
  have k3 := (hb2.frozen (p := ⟨w.heap.size + 3, 0, none⟩) (by simp)).trans hf3
  have HFF := Aside0.mk (hb.trans (hb2.mono (by simp; omega)))
  have s2 := drewN_setCell_id _ _ _ _ f2
  have s3 := drewN_setCell_id _ _ _ _ f3
  clear hb hs1 h2 h3 hf2 hf3 hb2
  go_wp2
  go_quiet (fail)
  go_wp2
  refine bodyPost_ret (v := .tuple #[.bool (fireX xs (t + 62135596800)), .string (statV (!fireX xs (t + 62135596800)))]) (by simp [results, Tryz.results30, go_sem, f2, f3]) rfl ⟨rfl, below_drewN HFF.out _⟩
end Go.Proofs.YtobbfenkdnaanaaGreatDoor

namespace Go.Proofs.YtobbfenkdnaanaaGreatDoor
open Go.RowKit Go.Maps Go.WideMaps Go.Sort

def lessA (x y : AlD) : Bool := decide (momS x.s < momS y.s) || (decide (momS x.e < momS y.e) || decide (fingH x.la < fingH y.la))

set_option maxHeartbeats 2000000 in
set_option maxRecDepth 100000 in
theorem alLess_calls (base g c n : Nat) (P : List (Nat × AlD)) (w : World) (hr : RowP w base (.slice (some ⟨g, 0, none⟩) n c) P) (ha : AlsAt w P) (hs : ∀ p ∈ P, Sized p.2.la) (hg : g < w.heap.size) (hn : n = P.length) (h8 : n ≤ 8) (i j : Nat) (hi : i < P.length) (hj : j < P.length) :
    Calls Tryz.prog 362 #[.slice (some ⟨g, 0, none⟩) n c, .int .i64 i, .int .i64 j] w fun e w' => e = .returned (.bool (lessA (P[i]'hi).2 (P[j]'hj).2)) ∧ Below w.heap.size w w' := by
  have ci := hr.cell i hi
  have cj := hr.cell j hj
  obtain ⟨b1, b2, hai, hmi, _⟩ := ha _ (List.getElem_mem hi)
  obtain ⟨d1, d2, haj, hmj, _⟩ := ha _ (List.getElem_mem hj)
  have hsi := hs _ (List.getElem_mem hi)
  have hsj := hs _ (List.getElem_mem hj)
  obtain ⟨p, hp⟩ : ∃ p, P[i]'hi = p := ⟨_, rfl⟩
  obtain ⟨q, hq⟩ : ∃ q, P[j]'hj = q := ⟨_, rfl⟩
  rw [hp] at ci hai hmi hsi ⊢
  rw [hq] at cj haj hmj hsj ⊢
  subst hn
  clear hp hq hr ha hs
  have HA := Aside0.mk (And.intro hai (And.intro haj (And.intro hmi (And.intro hmj (And.intro hsi hsj)))))
  have HG := Aside0.mk hg
  have HC := Aside0.mk (And.intro ci cj)
  clear hai haj hmi hmj hsi hsj hg ci cj
  have HS := Aside0.mk (show ∀ W' : World, Below w.heap.size w W' → W'.cell? ⟨g, i, none⟩ = some (.pointer (some ⟨p.1, 0, none⟩)) ∧ W'.cell? ⟨g, j, none⟩ = some (.pointer (some ⟨q.1, 0, none⟩)) ∧ W'.cell? ⟨p.1, 2, none⟩ = some (.int .i64 (momS p.2.s)) ∧ W'.cell? ⟨p.1, 3, none⟩ = some (.int .i64 0) ∧ W'.cell? ⟨p.1, 4, none⟩ = some (.int .i64 (momS p.2.e)) ∧ W'.cell? ⟨p.1, 5, none⟩ = some (.int .i64 0) ∧ W'.cell? ⟨q.1, 2, none⟩ = some (.int .i64 (momS q.2.s)) ∧ W'.cell? ⟨q.1, 3, none⟩ = some (.int .i64 0) ∧ W'.cell? ⟨q.1, 4, none⟩ = some (.int .i64 (momS q.2.e)) ∧ W'.cell? ⟨q.1, 5, none⟩ = some (.int .i64 0) from fun W' hb =>
    have a1 := HA.out.1.next hb
    have a2 := HA.out.2.1.next hb
    ⟨(hb.cell (p := ⟨g, i, none⟩) HG.out).trans HC.out.1, (hb.cell (p := ⟨g, j, none⟩) HG.out).trans HC.out.2, a1.2.2.2.1, a1.2.2.2.2.1, a1.2.2.2.2.2.1, a1.2.2.2.2.2.2, a2.2.2.2.1, a2.2.2.2.2.1, a2.2.2.2.2.2.1, a2.2.2.2.2.2.2⟩)
  have hS := HS.out w (Below.refl _ _)
  have HBD := Aside0.mk (Below.refl w.heap.size w).drew
  have hSD := HS.out _ HBD.out
  have hi0 : (0 : Int) ≤ (i : Int) := by omega
  have hi1 : (i : Int) < (P.length : Int) := by omega
  have hj0 : (0 : Int) ≤ (j : Int) := by omega
  have hj1 : (j : Int) < (P.length : Int) := by omega
  clear hS
  go_enter Tryz.func362, Tryz.ntmps362
  go_wp2_with fail
  go_region_held3 (fun W' : World => W'.cell? ⟨g, i, none⟩ = some (.pointer (some ⟨p.1, 0, none⟩)) ∧ W'.cell? ⟨g, j, none⟩ = some (.pointer (some ⟨q.1, 0, none⟩)) ∧ W'.cell? ⟨p.1, 2, none⟩ = some (.int .i64 (momS p.2.s)) ∧ W'.cell? ⟨p.1, 3, none⟩ = some (.int .i64 0) ∧ W'.cell? ⟨p.1, 4, none⟩ = some (.int .i64 (momS p.2.e)) ∧ W'.cell? ⟨p.1, 5, none⟩ = some (.int .i64 0) ∧ W'.cell? ⟨q.1, 2, none⟩ = some (.int .i64 (momS q.2.s)) ∧ W'.cell? ⟨q.1, 3, none⟩ = some (.int .i64 0) ∧ W'.cell? ⟨q.1, 4, none⟩ = some (.int .i64 (momS q.2.e)) ∧ W'.cell? ⟨q.1, 5, none⟩ = some (.int .i64 0)) (first | assumption | go_keep) (first
    | (go_at_call 119; refine Calls.mono (tbefore_calls _ _ _) ?_; rintro e w1 ⟨rfl, hb1⟩; have HB1 := Aside0.mk (below_step HBD.out hb1); have hS1 := HS.out _ HB1.out; clear hb1))
  cases d0 : decide (momS p.2.s < momS q.2.s) with
  | true =>
    have HD := Aside0.mk (show lessA p.2 q.2 = true by unfold lessA; rw [d0]; rfl)
    clear d0
    go_wp2
    go_ret
    exact ⟨by rw [HD.out]; rfl, HB1.out⟩
  | false =>
    have HB1D := Aside0.mk HB1.out.drew
    have hS1D := HS.out _ HB1D.out
    go_wp2_with fail
    go_region_held3 (fun W' : World => W'.cell? ⟨g, i, none⟩ = some (.pointer (some ⟨p.1, 0, none⟩)) ∧ W'.cell? ⟨g, j, none⟩ = some (.pointer (some ⟨q.1, 0, none⟩)) ∧ W'.cell? ⟨p.1, 2, none⟩ = some (.int .i64 (momS p.2.s)) ∧ W'.cell? ⟨p.1, 3, none⟩ = some (.int .i64 0) ∧ W'.cell? ⟨p.1, 4, none⟩ = some (.int .i64 (momS p.2.e)) ∧ W'.cell? ⟨p.1, 5, none⟩ = some (.int .i64 0) ∧ W'.cell? ⟨q.1, 2, none⟩ = some (.int .i64 (momS q.2.s)) ∧ W'.cell? ⟨q.1, 3, none⟩ = some (.int .i64 0) ∧ W'.cell? ⟨q.1, 4, none⟩ = some (.int .i64 (momS q.2.e)) ∧ W'.cell? ⟨q.1, 5, none⟩ = some (.int .i64 0)) (first | assumption | go_keep) (first
      | (go_at_call 119; refine Calls.mono (tbefore_calls _ _ _) ?_; rintro e w2 ⟨rfl, hb2⟩; have HB2 := Aside0.mk (below_step HB1D.out hb2); have hS2 := HS.out _ HB2.out; clear hb2))
    cases d3 : decide (momS p.2.e < momS q.2.e) with
    | true =>
      have HD := Aside0.mk (show lessA p.2 q.2 = true by unfold lessA; rw [d0, d3]; rfl)
      clear d0 d3
      go_wp2
      go_ret
      exact ⟨by rw [HD.out]; rfl, HB2.out⟩
    | false =>
      have HD := Aside0.mk (show lessA p.2 q.2 = decide (fingH p.2.la < fingH q.2.la) by unfold lessA; rw [d0, d3]; rfl)
      clear d0 d3
      have HB2D := Aside0.mk HB2.out.drew
      have hS2D := HS.out _ HB2D.out
      go_wp2_with fail
      go_region_held3 (fun W' : World => W'.cell? ⟨g, i, none⟩ = some (.pointer (some ⟨p.1, 0, none⟩)) ∧ W'.cell? ⟨g, j, none⟩ = some (.pointer (some ⟨q.1, 0, none⟩)) ∧ W'.cell? ⟨p.1, 2, none⟩ = some (.int .i64 (momS p.2.s)) ∧ W'.cell? ⟨p.1, 3, none⟩ = some (.int .i64 0) ∧ W'.cell? ⟨p.1, 4, none⟩ = some (.int .i64 (momS p.2.e)) ∧ W'.cell? ⟨p.1, 5, none⟩ = some (.int .i64 0) ∧ W'.cell? ⟨q.1, 2, none⟩ = some (.int .i64 (momS q.2.s)) ∧ W'.cell? ⟨q.1, 3, none⟩ = some (.int .i64 0) ∧ W'.cell? ⟨q.1, 4, none⟩ = some (.int .i64 (momS q.2.e)) ∧ W'.cell? ⟨q.1, 5, none⟩ = some (.int .i64 0)) (first | assumption | go_keep) (first
        | (go_at_call_of 63 (Value.pointer (some ⟨p.1, 0, none⟩)); refine Calls.mono (afinger_calls p.1 b1 b2 20 (momS p.2.s) (momS p.2.e) p.2.la _ (HA.out.1.next HB2D.out) (HA.out.2.2.1.next HB2D.out) HA.out.2.2.2.2.1) ?_; rintro e w3 ⟨rfl, hb3⟩; have HB3 := Aside0.mk (below_step HB2D.out hb3); have hS3 := HS.out _ HB3.out; clear hb3)
        | (go_at_call_of 63 (Value.pointer (some ⟨q.1, 0, none⟩)); refine Calls.mono (afinger_calls q.1 d1 d2 20 (momS q.2.s) (momS q.2.e) q.2.la _ (HA.out.2.1.next HB3.out) (HA.out.2.2.2.1.next HB3.out) HA.out.2.2.2.2.2) ?_; rintro e w4 ⟨rfl, hb4⟩; have HB4 := Aside0.mk (below_step HB3.out hb4); have hS4 := HS.out _ HB4.out; clear hb4))
      go_wp2
      go_ret
      exact ⟨by rw [HD.out]; rfl, HB4.out⟩

set_option maxRecDepth 100000 in
theorem alLen_calls (v : Value) (a : Option Addr) (n c : Nat) (hv : v = .slice a n c) (w : World) : Calls Tryz.prog 361 #[v] w fun e w' => e = .returned (.int .i64 n) ∧ w' = w := by
  subst hv
  go_enter Tryz.func361, Tryz.ntmps361
  go_wp2
  go_ret
  exact ⟨rfl, rfl⟩
end Go.Proofs.YtobbfenkdnaanaaGreatDoor

namespace Go.Proofs.YtobbfenkdnaanaaGreatDoor
open Go.RowKit Go.Maps Go.WideMaps Go.Sort

def swapL (P : List (Nat × AlD)) (i j : Nat) : List (Nat × AlD) := match P[i]?, P[j]? with
  | some x, some y => (P.set i y).set j x
  | _, _ => P
theorem swapL_of {P : List (Nat × AlD)} {i j : Nat} (hi : i < P.length) (hj : j < P.length) : swapL P i j = (P.set i (P[j]'hj)).set j (P[i]'hi) := by
  unfold swapL
  rw [List.getElem?_eq_getElem hi, List.getElem?_eq_getElem hj]
theorem ptrs_set (P : List (Nat × AlD)) (i : Nat) (x : Nat × AlD) : ptrs (P.set i x) = (ptrs P).set i (.pointer (some ⟨x.1, 0, none⟩)) := by
  unfold ptrs
  rw [List.map_set]

set_option maxHeartbeats 2000000 in
set_option maxRecDepth 100000 in
theorem alSwap_calls (base g c n : Nat) (P : List (Nat × AlD)) (w : World) (hr : RowP w base (.slice (some ⟨g, 0, none⟩) n c) P) (hn : n = P.length) (i j : Nat) (hi : i < P.length) (hj : j < P.length) :
    Calls Tryz.prog 363 #[.slice (some ⟨g, 0, none⟩) n c, .int .i64 i, .int .i64 j] w fun e w' => e = .returned (.tuple #[]) ∧ RowP w' base (.slice (some ⟨g, 0, none⟩) n c) (swapL P i j) ∧ w.grownBy w' (some g) := by
  have ci := hr.cell i hi
  have cj := hr.cell j hj
  subst hn
  have hr' : w.ownsRow base 83 1 (.slice (some ⟨g, 0, none⟩) P.length c) P.length (ptrs P) := hr
  have fi := hr'.frozenAt i
  have fj := hr'.frozenAt j
  have HR := Aside0.mk hr'
  have HS := Aside0.mk (swapL_of hi hj)
  have hi0 : (0 : Int) ≤ (i : Int) := by omega
  have hi1 : (i : Int) < (P.length : Int) := by omega
  have hj0 : (0 : Int) ≤ (j : Int) := by omega
  have hj1 : (j : Int) < (P.length : Int) := by omega
  obtain ⟨p, hp⟩ : ∃ p, P[i]'hi = p := ⟨_, rfl⟩
  obtain ⟨q, hq⟩ : ∃ q, P[j]'hj = q := ⟨_, rfl⟩
  rw [hp] at ci HS
  rw [hq] at cj HS
  have HPO := Aside0.mk (show RowP (((w.setCell ⟨g, i, none⟩ (.pointer (some ⟨q.1, 0, none⟩))).setCell ⟨g, j, none⟩ (.pointer (some ⟨p.1, 0, none⟩))).drewN 1) base (.slice (some ⟨g, 0, none⟩) P.length c) (swapL P i j) ∧ w.grownBy (((w.setCell ⟨g, i, none⟩ (.pointer (some ⟨q.1, 0, none⟩))).setCell ⟨g, j, none⟩ (.pointer (some ⟨p.1, 0, none⟩))).drewN 1) (some g) from by
    have h1 := hr'.stored i (.pointer (some ⟨q.1, 0, none⟩))
    have h2 := World.ownsRow.stored h1.1 j (.pointer (some ⟨p.1, 0, none⟩))
    have hl : (swapL P i j).length = P.length := by rw [HS.out, List.length_set, List.length_set]
    have hh := h1.2.trans h2.2
    refine ⟨?_, ⟨hh.os, hh.tape, hh.output, hh.size, hh.block⟩⟩
    unfold RowP
    rw [hl, HS.out, ptrs_set, ptrs_set]
    exact h2.1)
  obtain ⟨v', hy'⟩ := cell?_setCell_some (w := w) (p := ⟨g, i, none⟩) (x := .pointer (some ⟨q.1, 0, none⟩)) (q := ⟨g, j, none⟩) cj
  clear hp hq hr hr'
  go_enter Tryz.func363, Tryz.ntmps363
  go_wp2
  go_region
  all_goals (try go_wp2)
  all_goals go_end0
  all_goals exact ⟨rfl, HPO.out⟩
end Go.Proofs.YtobbfenkdnaanaaGreatDoor

namespace Go.Proofs.YtobbfenkdnaanaaGreatDoor
open Go.RowKit Go.Maps Go.WideMaps Go.Sort

/-- The fingerprint of alert k. -/
def fAt (P : List (Nat × AlD)) (k : Nat) : Int := match P[k]? with | some p => fingH p.2.la | none => 0
def Alike (P : List (Nat × AlD)) : Prop := ∀ p ∈ P, ∀ q ∈ P, p.2.s = q.2.s ∧ p.2.e = q.2.e
/-- In order of fingerprints up to i, but for place j. -/
def UpTo (P : List (Nat × AlD)) (i j : Nat) : Prop := ∀ a b, a < b → b < i → b ≠ j → fAt P a ≤ fAt P b
theorem swapL_perm (P : List (Nat × AlD)) {i j : Nat} (hi : i < P.length) (hj : j < P.length) : (swapL P i j).Perm P := by
  rw [swapL_of hi hj]
  exact List.set_set_perm hi hj
theorem swapL_length (P : List (Nat × AlD)) (i j : Nat) : (swapL P i j).length = P.length := by
  unfold swapL
  split
  · rw [List.length_set, List.length_set]
  · rfl
theorem fAt_swap (P : List (Nat × AlD)) {i j : Nat} (hi : i < P.length) (hj : j < P.length) (k : Nat) : fAt (swapL P i j) k = if k = j then fAt P i else if k = i then fAt P j else fAt P k := by
  unfold fAt
  rw [swapL_of hi hj, List.getElem?_set, List.length_set, List.getElem?_set]
  by_cases h1 : k = j
  · subst h1
    rw [if_pos rfl, if_pos rfl, if_pos hj, List.getElem?_eq_getElem hi]
  · rw [if_neg (fun e => h1 e.symm), if_neg h1]
    by_cases h2 : k = i
    · subst h2
      rw [if_pos rfl, if_pos rfl, if_pos hi, List.getElem?_eq_getElem hj]
    · rw [if_neg (fun e => h2 e.symm), if_neg h2]
theorem UpTo.swap {P : List (Nat × AlD)} {i j : Nat} (h : UpTo P i j) (hj : 0 < j) (hji : j < i) (hi : i ≤ P.length) (hlt : fAt P j < fAt P (j - 1)) : UpTo (swapL P j (j - 1)) i (j - 1) := by
  intro a b hab hbi hbj
  have hs := fAt_swap P (i := j) (j := j - 1) (by omega) (by omega)
  rw [hs a, hs b, if_neg hbj]
  by_cases hb : b = j
  · subst hb
    rw [if_pos rfl]
    by_cases ha : a = b - 1
    · rw [if_pos ha]; omega
    · rw [if_neg ha, if_neg (by omega)]
      exact h a (b - 1) (by omega) (by omega) (by omega)
  · rw [if_neg hb]
    by_cases ha : a = j - 1
    · rw [if_pos ha]; exact h j b (by omega) hbi hb
    · rw [if_neg ha]
      by_cases ha' : a = j
      · rw [if_pos ha']; exact h (j - 1) b (by omega) hbi hb
      · rw [if_neg ha']; exact h a b hab hbi hb
theorem UpTo.done {P : List (Nat × AlD)} {i j : Nat} (h : UpTo P i j) (hd : j = 0 ∨ fAt P (j - 1) ≤ fAt P j) (k : Nat) : UpTo P i k := by
  intro a b hab hbi _
  by_cases hb : b = j
  · subst hb
    rcases hd with h0 | h0
    · omega
    · by_cases ha : a = b - 1
      · rw [ha]; exact h0
      · exact Int.le_trans (h a (b - 1) (by omega) (by omega) (by omega)) h0
  · exact h a b hab hbi hb
theorem less_alike {P : List (Nat × AlD)} (h : Alike P) {i j : Nat} (hi : i < P.length) (hj : j < P.length) : lessA (P[i]'hi).2 (P[j]'hj).2 = decide (fAt P i < fAt P j) := by
  obtain ⟨h1, h2⟩ := h _ (List.getElem_mem hi) _ (List.getElem_mem hj)
  unfold lessA fAt
  rw [h1, h2, List.getElem?_eq_getElem hi, List.getElem?_eq_getElem hj]
  simp [Int.lt_irrefl]

set_option maxHeartbeats 2000000 in
set_option maxRecDepth 100000 in
theorem arrange_calls (base : Nat) (v : Value) (P : List (Nat × AlD)) (w0 w : World) (hr : RowP w base v P) (ha : AlsAt w P) (hs : ∀ p ∈ P, Sized p.2.la) (hb : w0.heap.size ≤ base) (hbw : Below w0.heap.size w0 w) (h8 : P.length ≤ 8) :
    Calls Tryz.prog 85 #[.iface 125 v] w fun e w' => e = .returned (.tuple #[]) ∧ ∃ P' : List (Nat × AlD), P'.Perm P ∧ RowP w' base v P' ∧ AlsAt w' P' ∧ Below w0.heap.size w0 w' ∧ (Alike P → UpTo P' P.length P.length) := by
  obtain ⟨a, c, rfl, hcl⟩ := hr.form
  have HR := Aside0.mk hr
  have HA := Aside0.mk ha
  have HS := Aside0.mk hs
  have HBW := Aside0.mk (And.intro hb hbw)
  have HCL := Aside0.mk hcl
  clear hr ha hs hb hbw hcl
  go_enter Tryz.func85, Tryz.ntmps85
  go_wp2_with fail
  go_loopg [2] (P.length + 1) (fun g v2 w' => ∃ (i : Nat) (P' : List (Nat × AlD)), v2 = .int .i64 (i : Int) ∧ 1 ≤ i ∧ i + g = P.length + 2 ∧ Aside0 (P'.Perm P) ∧ Aside0 (RowP w' base (.slice a P.length c) P') ∧ Aside0 (AlsAt w' P') ∧ Aside0 (Below w0.heap.size w0 w') ∧ Aside0 (Alike P → UpTo P' i P.length))
  case atStart => exact ⟨1, P, rfl, by omega, by omega, ⟨List.Perm.refl _⟩, HR, HA, ⟨HBW.out.2⟩, ⟨fun _ a b h1 h2 _ => by omega⟩⟩
  case round =>
    obtain ⟨i, P', rfl, hi1, hig, HP, HR, HA, HB, HU⟩ := hrel
    go_wp2_with fail
    refine (alLen_calls _ a P.length c rfl wr).mono ?_
    rintro e w1 ⟨rfl, rfl⟩
    by_cases hlt : i < P.length
    · obtain ⟨g1, rfl⟩ : ∃ m, gk = m + 1 := ⟨gk - 1, by omega⟩
      have hlen : P'.length = P.length := HP.out.length_eq
      obtain ⟨a2, c2, hv2, hf⟩ := HR.out.form
      obtain ⟨g, hag, hgl, _⟩ := hf i (by omega)
      injection hv2 with h1 h2 h3
      obtain rfl : a = some ⟨g, 0, none⟩ := h1.trans hag
      have HGE := Aside0.mk (show base ≤ g from (World.ownsRow.lt HR.out g rfl).1)
      clear hf hag hgl h1 h2 h3
      go_wp2_with fail
      go_loopg [3] i (fun gg v3 w' => ∃ P2 : List (Nat × AlD), v3 = .int .i64 (gg : Int) ∧ gg ≤ i ∧ Aside0 (P2.Perm P) ∧ Aside0 (RowP w' base (.slice (some ⟨g, 0, none⟩) P.length c) P2) ∧ Aside0 (AlsAt w' P2) ∧ Aside0 (Below w0.heap.size w0 w') ∧ Aside0 (Alike P → UpTo P2 (i + 1) gg))
      case atStart => exact ⟨P', rfl, Nat.le_refl _, HP, HR, HA, HB, ⟨fun hal a b h1 h2 h3 => HU.out hal a b h1 (by omega) (by omega)⟩⟩
      case round =>
        obtain ⟨P2, rfl, hji, HP2, HR2, HA2, HB2, HU2⟩ := hrel
        rcases gk with _ | k
        · go_wp2_with fail
          go_roundg g1
          case measure => omega
          case rel => exact ⟨i + 1, P2, by go_num, by omega, by omega, HP2, HR2, HA2, HB2, ⟨fun hal => (HU2.out hal).done (.inl rfl) _⟩⟩
        · have hlen2 : P2.length = P.length := HP2.out.length_eq
          have hk1 : k + 1 < P2.length := by omega
          have hk0 : k < P2.length := by omega
          have hless := alLess_calls base g c P.length P2 wr HR2.out HA2.out (fun p hp => HS.out p (HP2.out.mem_iff.1 hp)) (World.ownsRow.lt HR2.out g rfl).2 hlen2.symm h8 (k + 1) k hk1 hk0
          rw [show ((k + 1 : Nat) : Int) = (k : Int) + 1 by omega] at hless
          have HLE := Aside0.mk hless
          have HAL := Aside0.mk (show Alike P → lessA (P2[k + 1]'hk1).2 (P2[k]'hk0).2 = decide (fAt P2 (k + 1) < fAt P2 k) from fun hal => less_alike (fun p hp q hq => hal p (HP2.out.mem_iff.1 hp) q (HP2.out.mem_iff.1 hq)) hk1 hk0)
          have HKK := Aside0.mk (And.intro hk1 (And.intro hk0 hlen2))
          obtain ⟨b, hbv⟩ : ∃ b, lessA (P2[k + 1]'hk1).2 (P2[k]'hk0).2 = b := ⟨_, rfl⟩
          rw [hbv] at HLE HAL
          clear hless hbv hlen2 hk1 hk0
          go_wp2_with fail
          refine HLE.out.mono ?_
          rintro e w1 ⟨rfl, hb1⟩
          have HR3 := Aside0.mk (HR2.out.next hb1)
          have HA3 := Aside0.mk (HA2.out.next hb1)
          have HB3 := Aside0.mk (below_step HB2.out hb1)
          clear hb1 HLE
          cases b with
          | false =>
            go_wp2_with fail
            go_roundg g1
            case measure => omega
            case rel => exact ⟨i + 1, P2, by go_num, by omega, by omega, HP2, HR3, HA3, HB3, ⟨fun hal => (HU2.out hal).done (.inr (by have h1 := HAL.out hal; have h2 := of_decide_eq_false h1.symm; show fAt P2 (k + 1 - 1) ≤ _; rw [Nat.add_sub_cancel]; omega)) _⟩⟩
          | true =>
            have hsw := alSwap_calls base g c P.length P2 w1 HR3.out HKK.out.2.2.symm (k + 1) k HKK.out.1 HKK.out.2.1
            rw [show ((k + 1 : Nat) : Int) = (k : Int) + 1 by omega] at hsw
            have HSW := Aside0.mk hsw
            clear hsw
            go_wp2_with fail
            refine HSW.out.mono ?_
            rintro e w2 ⟨rfl, hrow2, hg2⟩
            have HX2 := Aside0.mk (And.intro hrow2 hg2)
            clear hrow2 hg2 HSW
            go_wp2_with fail
            go_roundg k
            case measure => omega
            case rel =>
              obtain ⟨hrow2, hg2⟩ := HX2.out
              have hpm := swapL_perm P2 HKK.out.1 HKK.out.2.1
              refine ⟨swapL P2 (k + 1) k, by go_num, by omega, ⟨hpm.trans HP2.out⟩, ⟨hrow2⟩, ⟨?_⟩, ⟨?_⟩, ⟨?_⟩⟩
              · intro p hp
                exact (HA3.out.kept HR3.out hg2) p (hpm.mem_iff.1 hp)
              · exact HB3.out.grown hg2 HB3.out.size (fun q hq => by cases hq; exact Nat.le_trans HBW.out.1 HGE.out)
              · intro hal
                have h1 := of_decide_eq_true (HAL.out hal).symm
                have h3 := (HU2.out hal).swap (Nat.succ_pos k) (by omega) (by have := HKK.out.2.2; omega) (by rw [Nat.add_sub_cancel]; exact h1)
                rw [Nat.add_sub_cancel] at h3
                exact h3
    · go_wp2_with fail
      go_end0
      exact ⟨rfl, P', HP.out, HR.out, HA.out, HB.out, fun hal a b h1 h2 h3 => HU.out hal a b h1 (by omega) h3⟩
end Go.Proofs.YtobbfenkdnaanaaGreatDoor
