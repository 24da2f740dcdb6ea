/- impl.SetAbout, by contract. -/
import Derived.Test.YtobbfenkdnaanaaGreatDoorSpT
import Derived.Test.YtobbfenkdnaanaaGreatDoorHxD
import Derived.Test.YtobbfenkdnaanaaGreatDoorAlB
import Derived.Test.YtobbfenkdnaanaaGreatDoorMcA
set_option linter.unusedVariables false
set_option linter.unusedSimpArgs false
namespace Go.Proofs.YtobbfenkdnaanaaGreatDoor
open Go.RowKit Go.Maps Go.WideMaps Go.Sort Go.Proofs

set_option maxRecDepth 100000 in
theorem lfinger_calls (ba na : Nat) (la : LL) (w : World) (ha : MapIs w ba na la) (hsa : Sized la) :
    Calls Tryz.prog 95 #[.map (some ba)] w fun e w' => e = .returned (.int .u64 (fingH la)) ∧ Below w.heap.size w w' := by
  have HC := Aside0.mk (finger1_calls ba na la w ha hsa)
  clear ha hsa
  go_enter Tryz.func95, Tryz.ntmps95
  go_wp2_with fail
  refine HC.out.mono ?_
  rintro e w1 ⟨rfl, hb⟩
  have HB := Aside0.mk hb; clear hb
  go_wp2
  go_ret
  exact ⟨rfl, HB.out⟩

set_option maxRecDepth 100000 in
theorem lfast_calls (ba na : Nat) (la : LL) (w : World) (ha : MapIs w ba na la) (hsa : Sized la) :
    Calls Tryz.prog 96 #[.map (some ba)] w fun e w' => e = .returned (.int .u64 (fastH la)) ∧ Below w.heap.size w w' := by
  have HC := Aside0.mk (fast1_calls ba na la w ha hsa)
  clear ha hsa
  go_enter Tryz.func96, Tryz.ntmps96
  go_wp2_with fail
  refine HC.out.mono ?_
  rintro e w1 ⟨rfl, hb⟩
  have HB := Aside0.mk hb; clear hb
  go_wp2
  go_ret
  exact ⟨rfl, HB.out⟩

set_option maxHeartbeats 2000000 in
set_option maxRecDepth 100000 in
theorem sa1_calls (T : Lib.PrintTabs) (a : Option Addr) (cap : Nat) (la : LL) (u n : Nat) (W : World) (hn : n + 1 < W.heap.size) (hla : Labs W a la) (hoa : Once la) (hsa : Sized la) (hne : ∀ p ∈ la, 1 ≤ p.1.size) (hu : fingH la = (u : Int)) (hu2 : u < 18446744073709551616)
    (hT : Lib.PrintTabsAt 8 9 10 11 T W) (hU : Lib.Utf8Tabs 0 1 W) (c0 : W.cell? ⟨n, 0, none⟩ = some (.slice a la.length cap))
    (r0 : W.cell? ⟨n + 1, 0, none⟩ = some (.string ⟨#[]⟩)) (r1 : W.cell? ⟨n + 1, 1, none⟩ = some (.string ⟨#[]⟩)) (r2 : W.cell? ⟨n + 1, 2, none⟩ = some (.int .u64 0)) (r3 : W.cell? ⟨n + 1, 3, none⟩ = some (.int .u64 0)) (r4 : W.cell? ⟨n + 1, 4, none⟩ = some (.string ⟨#[]⟩)) (r5 : W.cell? ⟨n + 1, 5, none⟩ = some (.bool false))
    (f0 : W.frozen? ⟨n + 1, 0, none⟩ = false) (f1 : W.frozen? ⟨n + 1, 1, none⟩ = false) (f2 : W.frozen? ⟨n + 1, 2, none⟩ = false) (f3 : W.frozen? ⟨n + 1, 3, none⟩ = false) (f4 : W.frozen? ⟨n + 1, 4, none⟩ = false) (f5 : W.frozen? ⟨n + 1, 5, none⟩ = false) :
    Calls Tryz.prog 92 #[.pointer (some ⟨n, 0, none⟩), .pointer (some ⟨n + 1, 0, none⟩)] W fun r w' =>
      r = .returned (.tuple #[]) ∧ ∃ w1, Below W.heap.size W w1 ∧ w' = ((((((w1.setCell ⟨n + 1, 0, none⟩ (.string (strOfNums (setN T la)))).setCell ⟨n + 1, 1, none⟩ (.string (metT T la))).setCell ⟨n + 1, 2, none⟩ (.int .u64 (fingH la))).setCell ⟨n + 1, 3, none⟩ (.int .u64 (fastH la))).setCell ⟨n + 1, 4, none⟩ (.string (strOfNums (hexW 16 u)))).setCell ⟨n + 1, 5, none⟩ (.bool (valB la))) := by
  have HLA := Aside0.mk hla
  have HO := Aside0.mk (And.intro hoa (And.intro hsa hne))
  have HN := Aside0.mk hn
  have HT := Aside0.mk (And.intro hT hU)
  have HUU := Aside0.mk (And.intro hu hu2)
  have HR := Aside0.mk (And.intro r0 (And.intro r1 (And.intro r2 (And.intro r3 (And.intro r4 r5)))))
  have HF := Aside0.mk (And.intro f0 (And.intro f1 (And.intro f2 (And.intro f3 (And.intro f4 f5)))))
  clear hla hoa hsa hne hu hu2 hn hT hU r0 f0 r1 f1 r2 f2 r3 f3 r4 f4 r5 f5
  go_enter Tryz.func92, Tryz.ntmps92
  go_wp2_with fail
  refine (set_calls a cap la _ HLA.out HO.out.1 HO.out.2.1).mono ?_
  rintro e w1 ⟨ba, rfl, hle1, hm1, hb1⟩
  have HB1 := Aside0.mk hb1
  have HM1 := Aside0.mk hm1
  clear hle1 hm1 hb1
  go_wp2_with fail
  refine (setString_calls T ba 20 la _ HM1.out HO.out.2.1 HO.out.2.2 (printTabs_below HT.out.1 HB1.out) (Utf8Tabs_below HT.out.2 HB1.out)).mono ?_
  rintro e w2 ⟨rfl, hb2⟩
  have HB2 := Aside0.mk (below_step HB1.out hb2)
  have HM2 := Aside0.mk (HM1.out.next hb2)
  clear hb2
  go_wp2_with fail
  refine (metString_calls T ba 20 la _ HM2.out HO.out.2.1 (printTabs_below HT.out.1 HB2.out) (Utf8Tabs_below HT.out.2 HB2.out)).mono ?_
  rintro e w3 ⟨rfl, hb3⟩
  have HB3 := Aside0.mk (below_step HB2.out hb3)
  have HM3 := Aside0.mk (HM2.out.next hb3)
  clear hb3
  go_wp2_with fail
  refine (lfinger_calls ba 20 la _ HM3.out HO.out.2.1).mono ?_
  rintro e w4 ⟨rfl, hb4⟩
  have HB4 := Aside0.mk (below_step HB3.out hb4)
  have HM4 := Aside0.mk (HM3.out.next hb4)
  clear hb4
  go_wp2_with fail
  refine (lfast_calls ba 20 la _ HM4.out HO.out.2.1).mono ?_
  rintro e w5 ⟨rfl, hb5⟩
  have HB5 := Aside0.mk (below_step HB4.out hb5)
  have HM5 := Aside0.mk (HM4.out.next hb5)
  clear hb5
  go_wp2_with fail
  refine (lfinger_calls ba 20 la _ HM5.out HO.out.2.1).mono ?_
  rintro e w6 ⟨rfl, hb6⟩
  have HB6 := Aside0.mk (below_step HB5.out hb6)
  have HM6 := Aside0.mk (HM5.out.next hb6)
  clear hb6
  rw [HUU.out.1]
  go_wp2_with fail
  refine (fpString_calls u HUU.out.2 _).mono ?_
  rintro e w7 ⟨rfl, hb7⟩
  have HB7 := Aside0.mk (below_step HB6.out hb7)
  have HM7 := Aside0.mk (HM6.out.next hb7)
  clear hb7
  obtain ⟨t0, ht0⟩ : ∃ t0, strOfNums (setN T la) = t0 := ⟨_, rfl⟩
  obtain ⟨t1, ht1⟩ : ∃ t1, metT T la = t1 := ⟨_, rfl⟩
  obtain ⟨t4, ht4⟩ : ∃ t4, strOfNums (hexW 16 u) = t4 := ⟨_, rfl⟩
  rw [ht0, ht1, ht4]
  have HTT := Aside0.mk (And.intro ht0 (And.intro ht1 ht4))
  clear ht0 ht1 ht4
  go_wp2_with fail
  refine (lvalid_calls ba 20 la _ HM7.out HO.out.2.1 (Utf8Tabs_below HT.out.2 HB7.out)).mono ?_
  rintro e w8 ⟨⟨v8, rfl, hv8⟩, hb8⟩
  have hB8 := below_step HB7.out hb8
  have g0 := (hB8.cell (p := ⟨n + 1, 0, none⟩) (by have := HN.out; show n + 1 < _; omega)).trans HR.out.1
  have k0 := (hB8.frozen (p := ⟨n + 1, 0, none⟩) (by have := HN.out; show n + 1 < _; omega)).trans HF.out.1
  have g1 := (hB8.cell (p := ⟨n + 1, 1, none⟩) (by have := HN.out; show n + 1 < _; omega)).trans HR.out.2.1
  have k1 := (hB8.frozen (p := ⟨n + 1, 1, none⟩) (by have := HN.out; show n + 1 < _; omega)).trans HF.out.2.1
  have g2 := (hB8.cell (p := ⟨n + 1, 2, none⟩) (by have := HN.out; show n + 1 < _; omega)).trans HR.out.2.2.1
  have k2 := (hB8.frozen (p := ⟨n + 1, 2, none⟩) (by have := HN.out; show n + 1 < _; omega)).trans HF.out.2.2.1
  have g3 := (hB8.cell (p := ⟨n + 1, 3, none⟩) (by have := HN.out; show n + 1 < _; omega)).trans HR.out.2.2.2.1
  have k3 := (hB8.frozen (p := ⟨n + 1, 3, none⟩) (by have := HN.out; show n + 1 < _; omega)).trans HF.out.2.2.2.1
  have g4 := (hB8.cell (p := ⟨n + 1, 4, none⟩) (by have := HN.out; show n + 1 < _; omega)).trans HR.out.2.2.2.2.1
  have k4 := (hB8.frozen (p := ⟨n + 1, 4, none⟩) (by have := HN.out; show n + 1 < _; omega)).trans HF.out.2.2.2.2.1
  have g5 := (hB8.cell (p := ⟨n + 1, 5, none⟩) (by have := HN.out; show n + 1 < _; omega)).trans HR.out.2.2.2.2.2
  have k5 := (hB8.frozen (p := ⟨n + 1, 5, none⟩) (by have := HN.out; show n + 1 < _; omega)).trans HF.out.2.2.2.2.2
  have HB8 := Aside0.mk hB8
  clear hB8 hb8
  rcases hv8 with ⟨hv, rfl⟩ | ⟨hv, b9, s9, rfl, _⟩
  · have HV := Aside0.mk hv
    clear hv
    go_wp2
    go_end0
    refine ⟨rfl, w8, HB8.out, ?_⟩
    rw [HTT.out.1, HTT.out.2.1, HTT.out.2.2, HV.out, HUU.out.1]
  · have HV := Aside0.mk hv
    clear hv
    go_wp2
    go_end0
    refine ⟨rfl, w8, HB8.out, ?_⟩
    rw [HTT.out.1, HTT.out.2.1, HTT.out.2.2, HV.out, HUU.out.1]

/-- What the call inside safe leaves. -/
def SAQ (w : World) (v0 : Value) (v1 : Value) (v2 : Value) (v3 : Value) (v4 : Value) (v5 : Value) (w' : World) : Prop :=
  Below w.heap.size w w' ∧ w.heap.size + 2 < w'.heap.size ∧ w'.cell? ⟨w.heap.size + 1, 0, none⟩ = some v0 ∧ w'.cell? ⟨w.heap.size + 1, 1, none⟩ = some v1 ∧ w'.cell? ⟨w.heap.size + 1, 2, none⟩ = some v2 ∧ w'.cell? ⟨w.heap.size + 1, 3, none⟩ = some v3 ∧ w'.cell? ⟨w.heap.size + 1, 4, none⟩ = some v4 ∧ w'.cell? ⟨w.heap.size + 1, 5, none⟩ = some v5 ∧ (∀ i, i ≤ 5 → w'.frozen? ⟨w.heap.size + 1, i, none⟩ = false) ∧
    w'.cell? ⟨w.heap.size + 2, 0, none⟩ = some (.bool false) ∧ w'.frozen? ⟨w.heap.size + 2, 0, none⟩ = false

set_option maxHeartbeats 1000000 in
set_option maxRecDepth 100000 in
theorem setAbout_calls (T : Lib.PrintTabs) (a : Option Addr) (cap : Nat) (la : LL) (u : Nat) (w : World) (hla : Labs w a la) (hoa : Once la) (hsa : Sized la) (hne : ∀ p ∈ la, 1 ≤ p.1.size) (hu : fingH la = (u : Int)) (hu2 : u < 18446744073709551616)
    (hT : Lib.PrintTabsAt 8 9 10 11 T w) (hU : Lib.Utf8Tabs 0 1 w) :
    Calls Tryz.prog 32 #[.slice a la.length cap] w fun r w' => r = .returned (.agg #[.string (strOfNums (setN T la)), .string (metT T la), .int .u64 (fingH la), .int .u64 (fastH la), .string (strOfNums (hexW 16 u)), .bool (valB la)]) ∧ Below w.heap.size w w' := by
  have HL := Aside0.mk hla
  have HO := Aside0.mk (And.intro hoa (And.intro hsa hne))
  have HT := Aside0.mk (And.intro hT hU)
  have HUU := Aside0.mk (And.intro hu hu2)
  clear hla hoa hsa hne hT hU hu hu2
  obtain ⟨s0, hs0⟩ : ∃ s0, strOfNums (setN T la) = s0 := ⟨_, rfl⟩
  obtain ⟨s1, hs1⟩ : ∃ s1, metT T la = s1 := ⟨_, rfl⟩
  obtain ⟨s2, hs2⟩ : ∃ s2, fingH la = s2 := ⟨_, rfl⟩
  obtain ⟨s3, hs3⟩ : ∃ s3, fastH la = s3 := ⟨_, rfl⟩
  obtain ⟨s4, hs4⟩ : ∃ s4, strOfNums (hexW 16 u) = s4 := ⟨_, rfl⟩
  obtain ⟨s5, hs5⟩ : ∃ s5, valB la = s5 := ⟨_, rfl⟩
  rw [hs0, hs1, hs2, hs3, hs4, hs5]
  have HV := Aside0.mk (And.intro hs0 (And.intro hs1 (And.intro hs2 (And.intro hs3 (And.intro hs4 hs5)))))
  clear hs0 hs1 hs2 hs3 hs4 hs5
  go_enter Tryz.func32, Tryz.ntmps32
  go_wp2_with fail
  refine (safe_calls 92 _ _ (SAQ w (.string s0) (.string s1) (.int .u64 s2) (.int .u64 s3) (.string s4) (.bool s5)) (fun _ => by simp [go_sem]) ?_ ?_).mono ?_
  · have hk : Below w.heap.size w (((w.alloc (Obj.cells #[Value.slice a la.length cap] 22)).alloc (Obj.cells #[Value.string ⟨#[]⟩, Value.string ⟨#[]⟩, Value.int IntKind.u64 0, Value.int IntKind.u64 0, Value.string ⟨#[]⟩, Value.bool false] 56)).alloc (Obj.cells #[Value.bool false] 4)) :=
      below_alloc (below_alloc (below_alloc (Below.refl _ _) _) _) _
    refine (sa1_calls T a cap la u w.heap.size _ (by simp) (HL.out.next hk) HO.out.1 HO.out.2.1 HO.out.2.2 HUU.out.1 HUU.out.2 (printTabs_below HT.out.1 hk) (Utf8Tabs_below HT.out.2 hk) (by simp [go_sem]) (by simp [go_sem]) (by simp [go_sem]) (by simp [go_sem]) (by simp [go_sem]) (by simp [go_sem]) (by simp [go_sem]) (by simp [go_sem]) (by simp [go_sem]) (by simp [go_sem]) (by simp [go_sem]) (by simp [go_sem]) (by simp [go_sem])).mono ?_
    rw [HV.out.1, HV.out.2.1, HV.out.2.2.1, HV.out.2.2.2.1, HV.out.2.2.2.2.1, HV.out.2.2.2.2.2]
    rintro r w' ⟨rfl, w1, hb, rfl⟩
    have e0 := hb.cell (p := ⟨w.heap.size + 1, 0, none⟩) (by simp)
    have f0 := hb.frozen (p := ⟨w.heap.size + 1, 0, none⟩) (by simp)
    have e1 := hb.cell (p := ⟨w.heap.size + 1, 1, none⟩) (by simp)
    have f1 := hb.frozen (p := ⟨w.heap.size + 1, 1, none⟩) (by simp)
    have e2 := hb.cell (p := ⟨w.heap.size + 1, 2, none⟩) (by simp)
    have f2 := hb.frozen (p := ⟨w.heap.size + 1, 2, none⟩) (by simp)
    have e3 := hb.cell (p := ⟨w.heap.size + 1, 3, none⟩) (by simp)
    have f3 := hb.frozen (p := ⟨w.heap.size + 1, 3, none⟩) (by simp)
    have e4 := hb.cell (p := ⟨w.heap.size + 1, 4, none⟩) (by simp)
    have f4 := hb.frozen (p := ⟨w.heap.size + 1, 4, none⟩) (by simp)
    have e5 := hb.cell (p := ⟨w.heap.size + 1, 5, none⟩) (by simp)
    have f5 := hb.frozen (p := ⟨w.heap.size + 1, 5, none⟩) (by simp)
    have e7 := hb.cell (p := ⟨w.heap.size + 2, 0, none⟩) (by simp)
    have f7 := hb.frozen (p := ⟨w.heap.size + 2, 0, none⟩) (by simp)
    have e9 := hb.size
    simp [go_sem] at e0 f0 e1 f1 e2 f2 e3 f3 e4 f4 e5 f5 e7 f7 e9
    have hb' := below_step hk hb
    refine ⟨rfl, (((((hb'.setCell (p := ⟨w.heap.size + 1, 0, none⟩) (by simp) _).setCell (p := ⟨w.heap.size + 1, 1, none⟩) (by simp) _).setCell (p := ⟨w.heap.size + 1, 2, none⟩) (by simp) _).setCell (p := ⟨w.heap.size + 1, 3, none⟩) (by simp) _).setCell (p := ⟨w.heap.size + 1, 4, none⟩) (by simp) _).setCell (p := ⟨w.heap.size + 1, 5, none⟩) (by simp) _, by simp [World.setCell]; omega, ?_, ?_, ?_, ?_, ?_, ?_, ?_, ?_, ?_⟩
    · simp [go_sem, e0, e1, e2, e3, e4, e5]
    · simp [go_sem, e0, e1, e2, e3, e4, e5]
    · simp [go_sem, e0, e1, e2, e3, e4, e5]
    · simp [go_sem, e0, e1, e2, e3, e4, e5]
    · simp [go_sem, e0, e1, e2, e3, e4, e5]
    · simp [go_sem, e0, e1, e2, e3, e4, e5]
    · intro i h1
      rcases (show i = 0 ∨ i = 1 ∨ i = 2 ∨ i = 3 ∨ i = 4 ∨ i = 5 by omega) with rfl | rfl | rfl | rfl | rfl | rfl
      · simp [go_sem, f0]
      · simp [go_sem, f1]
      · simp [go_sem, f2]
      · simp [go_sem, f3]
      · simp [go_sem, f4]
      · simp [go_sem, f5]
    · simp [go_sem, e7]
    · simp [go_sem, f7]
  · rintro w' ⟨_, _, _, _, _, _, _, _, _, hc, hf⟩
    simpa using ⟨hc, hf⟩
  rintro r w2 ⟨rfl, w1, ⟨hb, hs1, h0, h1, h2, h3, h4, h5, hf, _, _⟩, hb2⟩
  have f0 := (hb2.cell (p := ⟨w.heap.size + 1, 0, none⟩) (by simp)).trans h0
  have k0 := (hb2.frozen (p := ⟨w.heap.size + 1, 0, none⟩) (by simp)).trans (hf 0 (by omega))
  have f1 := (hb2.cell (p := ⟨w.heap.size + 1, 1, none⟩) (by simp)).trans h1
  have k1 := (hb2.frozen (p := ⟨w.heap.size + 1, 1, none⟩) (by simp)).trans (hf 1 (by omega))
  have f2 := (hb2.cell (p := ⟨w.heap.size + 1, 2, none⟩) (by simp)).trans h2
  have k2 := (hb2.frozen (p := ⟨w.heap.size + 1, 2, none⟩) (by simp)).trans (hf 2 (by omega))
  have f3 := (hb2.cell (p := ⟨w.heap.size + 1, 3, none⟩) (by simp)).trans h3
  have k3 := (hb2.frozen (p := ⟨w.heap.size + 1, 3, none⟩) (by simp)).trans (hf 3 (by omega))
  have f4 := (hb2.cell (p := ⟨w.heap.size + 1, 4, none⟩) (by simp)).trans h4
  have k4 := (hb2.frozen (p := ⟨w.heap.size + 1, 4, none⟩) (by simp)).trans (hf 4 (by omega))
  have f5 := (hb2.cell (p := ⟨w.heap.size + 1, 5, none⟩) (by simp)).trans h5
  have k5 := (hb2.frozen (p := ⟨w.heap.size + 1, 5, none⟩) (by simp)).trans (hf 5 (by omega))
  have HFF := Aside0.mk (hb.trans (hb2.mono (by simp; omega)))
  have s0' := setCell_id _ _ _ _ f0
  have s1' := setCell_id _ _ _ _ f1
  have s2' := setCell_id _ _ _ _ f2
  have s3' := setCell_id _ _ _ _ f3
  have s4' := setCell_id _ _ _ _ f4
  have s5' := setCell_id _ _ _ _ f5
  clear hb hs1 h0 h1 h2 h3 h4 h5 hf hb2
  go_wp2
  refine bodyPost_ret (v := .agg #[.string s0, .string s1, .int .u64 s2, .int .u64 s3, .string s4, .bool s5]) (by simp [results, Tryz.results32, go_sem, f0, f1, f2, f3, f4, f5]) rfl ⟨rfl, HFF.out⟩
end Go.Proofs.YtobbfenkdnaanaaGreatDoor
