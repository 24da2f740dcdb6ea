/- impl.AlertAbout, by contract. -/
import Derived.Test.YtobbfenkdnaanaaGreatDoorAlD
set_option linter.unusedVariables false
set_option linter.unusedSimpArgs false
namespace Go.Proofs.YtobbfenkdnaanaaGreatDoor
open Go.RowKit Go.Maps Go.WideMaps Go.Sort

set_option maxHeartbeats 2000000 in
set_option maxRecDepth 100000 in
theorem alert1_calls (a a' : Option Addr) (cap cap' : Nat) (la lb : LL) (s e t : Int) (n : Nat) (W : World) (hn : n + 2 < W.heap.size) (hla : Labs W a la) (hlb : Labs W a' lb) (hoa : Once la) (hob : Once lb) (hsa : Sized la) (hsb : Sized lb) (hT : Tabs W)
    (hs0 : 0 ≤ s) (hs1 : s ≤ 8589934592) (he0 : 0 ≤ e) (he1 : e ≤ 8589934592) (ht0 : 0 ≤ t) (ht1 : t ≤ 8589934592)
    (c0 : W.cell? ⟨n, 0, none⟩ = some (.slice a la.length cap)) (c1 : W.cell? ⟨n, 1, none⟩ = some (.slice a' lb.length cap')) (c2 : W.cell? ⟨n, 2, none⟩ = some (.int .i64 s)) (c3 : W.cell? ⟨n, 3, none⟩ = some (.int .i64 e))
    (d0 : W.cell? ⟨n + 1, 0, none⟩ = some (.int .i64 t))
    (r0 : W.cell? ⟨n + 2, 0, none⟩ = some (.bool false)) (r1 : W.cell? ⟨n + 2, 1, none⟩ = some (.string ⟨#[]⟩)) (r2 : W.cell? ⟨n + 2, 2, none⟩ = some (.string ⟨#[]⟩)) (r3 : W.cell? ⟨n + 2, 3, none⟩ = some (.int .u64 0)) (r4 : W.cell? ⟨n + 2, 4, none⟩ = some (.bool false))
    (f0 : W.frozen? ⟨n + 2, 0, none⟩ = false) (f1 : W.frozen? ⟨n + 2, 1, none⟩ = false) (f2 : W.frozen? ⟨n + 2, 2, none⟩ = false) (f3 : W.frozen? ⟨n + 2, 3, none⟩ = false) (f4 : W.frozen? ⟨n + 2, 4, none⟩ = false) :
    Calls Tryz.prog 57 #[.pointer (some ⟨n, 0, none⟩), .pointer (some ⟨n + 1, 0, none⟩), .pointer (some ⟨n + 2, 0, none⟩)] W fun r w' =>
      r = .returned (.tuple #[]) ∧ ∃ w1, Below W.heap.size W w1 ∧ w' = ((((w1.setCell ⟨n + 2, 0, none⟩ (.bool (resB (momS e) (t + 62135596800)))).setCell ⟨n + 2, 1, none⟩ (.string (statV (resB (momS e) (t + 62135596800))))).setCell ⟨n + 2, 2, none⟩ (.string (anameV la))).setCell ⟨n + 2, 3, none⟩ (.int .u64 (fingH la))).setCell ⟨n + 2, 4, none⟩ (.bool (alB (momS s) (momS e) la lb)) := by
  have HLA := Aside0.mk hla
  have HLB := Aside0.mk hlb
  have HO := Aside0.mk (And.intro hoa hob)
  have HSA := Aside0.mk hsa
  have HSB := Aside0.mk hsb
  have HN := Aside0.mk hn
  have HT := Aside0.mk hT
  have HS := Aside0.mk (And.intro hs0 hs1)
  have HE := Aside0.mk (And.intro he0 he1)
  have HTT := Aside0.mk (And.intro ht0 ht1)
  have HC := Aside0.mk (And.intro c0 (And.intro c1 (And.intro c2 c3)))
  have HD := Aside0.mk d0
  have HR := Aside0.mk (And.intro r0 (And.intro r1 (And.intro r2 (And.intro r3 r4))))
  have HF := Aside0.mk (And.intro f0 (And.intro f1 (And.intro f2 (And.intro f3 f4))))
  have KS : ∀ w' : World, Below W.heap.size W w' → w'.cell? ⟨n, 0, none⟩ = some (.slice a la.length cap) ∧ w'.cell? ⟨n, 1, none⟩ = some (.slice a' lb.length cap') ∧ w'.cell? ⟨n, 2, none⟩ = some (.int .i64 s) ∧ w'.cell? ⟨n, 3, none⟩ = some (.int .i64 e) := fun w' hb =>
    ⟨(hb.cell (p := ⟨n, 0, none⟩) (by show n < _; omega)).trans c0, (hb.cell (p := ⟨n, 1, none⟩) (by show n < _; omega)).trans c1, (hb.cell (p := ⟨n, 2, none⟩) (by show n < _; omega)).trans c2, (hb.cell (p := ⟨n, 3, none⟩) (by show n < _; omega)).trans c3⟩
  have HKS := Aside0.mk KS
  clear hla hlb hoa hob hsa hsb hn hT hs0 hs1 he0 he1 ht0 ht1 d0 r0 r1 r2 r3 r4 f0 f1 f2 f3 f4 KS
  go_enter Tryz.func57, Tryz.ntmps57
  go_wp2_with fail
  first
  | go_region_held3 (fun w' => w'.cell? ⟨n, 0, none⟩ = some (.slice a la.length cap) ∧ w'.cell? ⟨n, 1, none⟩ = some (.slice a' lb.length cap') ∧ w'.cell? ⟨n, 2, none⟩ = some (.int .i64 s) ∧ w'.cell? ⟨n, 3, none⟩ = some (.int .i64 e)) (first | assumption | go_keep) (first
      | (go_at_call_of 50 (Value.slice a la.length cap); refine Calls.mono (set_calls a cap la _ ?hl HO.out.1 HSA.out) ?_; (case hl => exact HLA.out.next (Below.refl W.heap.size W).drew); rintro r w1 ⟨b1, rfl, hle1, hm1, hbl1⟩; have HM1 := Aside0.mk hm1; have HB1 := Aside0.mk (below_step (Below.refl W.heap.size W).drew hbl1); have hS1 := HKS.out _ HB1.out; clear hle1 hm1 hbl1)
      | (go_at_call_of 50 (Value.slice a' lb.length cap'); refine Calls.mono (set_calls a' cap' lb _ ?hl HO.out.2 HSB.out) ?_; (case hl => exact HLB.out.next HB1.out); rintro r w2 ⟨b2, rfl, hle2, hm2, hbl2⟩; have HM2 := Aside0.mk hm2; have HMA2 := Aside0.mk (HM1.out.next hbl2); have HB2 := Aside0.mk (below_step HB1.out hbl2); have hS2 := HKS.out _ HB2.out; clear hle2 hm2 hbl2)
      | (go_at_call_of 58 (Value.int IntKind.i64 s); refine Calls.mono (moment_calls s HS.out.1 HS.out.2 _) ?_; rintro r w3 ⟨rfl, hb3⟩; have HB3 := Aside0.mk (below_step HB2.out hb3); have HMA3 := Aside0.mk (HMA2.out.next hb3); have HMB3 := Aside0.mk (HM2.out.next hb3); have hS3 := HKS.out _ HB3.out; clear hb3)
      | (go_at_call_of 58 (Value.int IntKind.i64 e); refine Calls.mono (moment_calls e HE.out.1 HE.out.2 _) ?_; rintro r w4 ⟨rfl, hb4⟩; have HB4 := Aside0.mk (below_step HB3.out hb4); have HMA4 := Aside0.mk (HMA3.out.next hb4); have HMB4 := Aside0.mk (HMB3.out.next hb4); have hS4 := HKS.out _ HB4.out; clear hb4))
  | fail
  obtain ⟨ms, hms⟩ : ∃ ms, momS s = ms := ⟨_, rfl⟩
  obtain ⟨me, hme⟩ : ∃ me, momS e = me := ⟨_, rfl⟩
  rw [hms, hme]
  have HMS := Aside0.mk (And.intro hms hme)
  clear hms hme c0 c1 c2 c3 hS1 hS2 hS3 hS4
  have HY := Aside0.mk (show AlertAt (w4.alloc (Obj.cells #[Value.map (some b1), Value.map (some b2), Value.int IntKind.i64 ms, Value.int IntKind.i64 0, Value.int IntKind.i64 me, Value.int IntKind.i64 0, Value.string ⟨#[]⟩] 88)) w4.heap.size b1 b2 ms me from ⟨by simp, by simp [go_sem], by simp [go_sem], by simp [go_sem], by simp [go_sem], by simp [go_sem], by simp [go_sem]⟩)
  have HB5 := Aside0.mk (below_alloc HB4.out (Obj.cells #[Value.map (some b1), Value.map (some b2), Value.int IntKind.i64 ms, Value.int IntKind.i64 0, Value.int IntKind.i64 me, Value.int IntKind.i64 0, Value.string ⟨#[]⟩] 88))
  have HMA5 := Aside0.mk (HMA4.out.alloc (Obj.cells #[Value.map (some b1), Value.map (some b2), Value.int IntKind.i64 ms, Value.int IntKind.i64 0, Value.int IntKind.i64 me, Value.int IntKind.i64 0, Value.string ⟨#[]⟩] 88))
  have HMB5 := Aside0.mk (HMB4.out.alloc (Obj.cells #[Value.map (some b1), Value.map (some b2), Value.int IntKind.i64 ms, Value.int IntKind.i64 0, Value.int IntKind.i64 me, Value.int IntKind.i64 0, Value.string ⟨#[]⟩] 88))
  have d5 := (HB5.out.cell (p := ⟨n + 1, 0, none⟩) (by have := HN.out; show n + 1 < _; omega)).trans HD.out
  obtain ⟨w5, hw5⟩ : ∃ w5, w4.alloc (Obj.cells #[Value.map (some b1), Value.map (some b2), Value.int IntKind.i64 ms, Value.int IntKind.i64 0, Value.int IntKind.i64 me, Value.int IntKind.i64 0, Value.string ⟨#[]⟩] 88) = w5 := ⟨_, rfl⟩
  obtain ⟨y, hy⟩ : ∃ y, w4.heap.size = y := ⟨_, rfl⟩
  rw [hw5] at HY HB5 HMA5 HMB5 d5 ⊢
  rw [hy] at HY ⊢
  clear hw5 hy
  go_wp2_with fail
  refine (unix_calls t HTT.out.1 HTT.out.2 _).mono ?_
  rintro r w6 ⟨rfl, hb6⟩
  obtain ⟨tt, htt⟩ : ∃ tt, t + 62135596800 = tt := ⟨_, rfl⟩
  rw [htt]
  have HTE := Aside0.mk htt
  have HB6 := Aside0.mk (below_step HB5.out hb6)
  have HY6 := Aside0.mk (HY.out.next hb6)
  have HMA6 := Aside0.mk (HMA5.out.next hb6)
  have HMB6 := Aside0.mk (HMB5.out.next hb6)
  clear hb6 d5 htt
  go_wp2_with fail
  have HB7 := Aside0.mk (below_alloc HB6.out (Obj.cells #[Value.int IntKind.i64 tt, Value.int IntKind.i64 0] 85))
  have HY7 := Aside0.mk (HY6.out.next (below_alloc (Below.refl _ _) (Obj.cells #[Value.int IntKind.i64 tt, Value.int IntKind.i64 0] 85)))
  have HMA7 := Aside0.mk (HMA6.out.alloc (Obj.cells #[Value.int IntKind.i64 tt, Value.int IntKind.i64 0] 85))
  have HMB7 := Aside0.mk (HMB6.out.alloc (Obj.cells #[Value.int IntKind.i64 tt, Value.int IntKind.i64 0] 85))
  have t0 : (w6.alloc (Obj.cells #[Value.int IntKind.i64 tt, Value.int IntKind.i64 0] 85)).cell? ⟨w6.heap.size, 0, none⟩ = some (.int .i64 tt) := by simp [go_sem]
  have t1 : (w6.alloc (Obj.cells #[Value.int IntKind.i64 tt, Value.int IntKind.i64 0] 85)).cell? ⟨w6.heap.size, 1, none⟩ = some (.int .i64 0) := by simp [go_sem]
  have tl : w6.heap.size < (w6.alloc (Obj.cells #[Value.int IntKind.i64 tt, Value.int IntKind.i64 0] 85)).heap.size := by simp
  obtain ⟨w7, hw7⟩ : ∃ w7, w6.alloc (Obj.cells #[Value.int IntKind.i64 tt, Value.int IntKind.i64 0] 85) = w7 := ⟨_, rfl⟩
  obtain ⟨tb, htb⟩ : ∃ tb, w6.heap.size = tb := ⟨_, rfl⟩
  rw [hw7] at HB7 HY7 HMA7 HMB7 t0 t1 tl ⊢
  rw [htb] at t0 t1 tl ⊢
  have TL := Aside0.mk (And.intro tl (And.intro t0 t1))
  clear hw7 htb tl
  cases hal : alB ms me la lb with
  | true =>
    have HAL := Aside0.mk hal
    clear hal
    go_region_with (first
      | (go_at_call 60; refine Calls.mono (resolved_calls y b1 b2 ms me tt _ ?ha) ?_; (case ha => exact HY7.out.next (Below.refl _ _).drew); rintro r w8 ⟨rfl, hb8⟩; have HR8 := Aside0.mk (below_step (Below.refl w7.heap.size w7).drew hb8); have HB8 := Aside0.mk (below_step HB7.out HR8.out); have HY8 := Aside0.mk (HY7.out.next HR8.out); have HMA8 := Aside0.mk (HMA7.out.next HR8.out); have HMB8 := Aside0.mk (HMB7.out.next HR8.out); have e80 := (HR8.out.cell (p := ⟨tb, 0, none⟩) TL.out.1).trans TL.out.2.1; have e81 := (HR8.out.cell (p := ⟨tb, 1, none⟩) TL.out.1).trans TL.out.2.2; clear hb8)
      | (go_at_call 61; refine Calls.mono (status_calls y b1 b2 ms me tt _ ?ha) ?_; (case ha => exact HY8.out); rintro r w9 ⟨rfl, hb9⟩; have HB9 := Aside0.mk (below_step HB8.out hb9); have HY9 := Aside0.mk (HY8.out.next hb9); have HMA9 := Aside0.mk (HMA8.out.next hb9); have HMB9 := Aside0.mk (HMB8.out.next hb9); clear hb9)
      | (go_at_call 62; refine Calls.mono (aname_calls y b1 b2 20 ms me la _ ?ha ?hm) ?_; (case ha => exact HY9.out); (case hm => exact HMA9.out); rintro r w10 ⟨rfl, hb10⟩; have HB10 := Aside0.mk (below_step HB9.out hb10); have HY10 := Aside0.mk (HY9.out.next hb10); have HMA10 := Aside0.mk (HMA9.out.next hb10); have HMB10 := Aside0.mk (HMB9.out.next hb10); clear hb10)
      | (go_at_call 63; refine Calls.mono (afinger_calls y b1 b2 20 ms me la _ ?ha ?hm HSA.out) ?_; (case ha => exact HY10.out); (case hm => exact HMA10.out); rintro r w11 ⟨rfl, hb11⟩; have HB11 := Aside0.mk (below_step HB10.out hb11); have HY11 := Aside0.mk (HY10.out.next hb11); have HMA11 := Aside0.mk (HMA10.out.next hb11); have HMB11 := Aside0.mk (HMB10.out.next hb11); clear hb11)
      | (go_at_call 64; refine Calls.mono (avalid_calls y b1 b2 20 20 ms me la lb _ ?ha ?hm ?hm2 HSA.out HSB.out ?ht) ?_; (case ha => exact HY11.out); (case hm => exact HMA11.out); (case hm2 => exact HMB11.out); (case ht => exact HT.out.next HB11.out); rintro r w12 ⟨⟨v12, rfl, hv⟩, hb12⟩; obtain rfl : v12 = .nilIface := (by rcases hv with ⟨_, h⟩ | ⟨h, _⟩; (· exact h); (· rw [HAL.out] at h; cases h)); have HB12 := Aside0.mk (below_step HB11.out hb12); have g0 := (HB12.out.cell (p := ⟨n + 2, 0, none⟩) (by have := HN.out; show n + 2 < _; omega)).trans HR.out.1; have k0 := (HB12.out.frozen (p := ⟨n + 2, 0, none⟩) (by have := HN.out; show n + 2 < _; omega)).trans HF.out.1; have g1 := (HB12.out.cell (p := ⟨n + 2, 1, none⟩) (by have := HN.out; show n + 2 < _; omega)).trans HR.out.2.1; have k1 := (HB12.out.frozen (p := ⟨n + 2, 1, none⟩) (by have := HN.out; show n + 2 < _; omega)).trans HF.out.2.1; have g2 := (HB12.out.cell (p := ⟨n + 2, 2, none⟩) (by have := HN.out; show n + 2 < _; omega)).trans HR.out.2.2.1; have k2 := (HB12.out.frozen (p := ⟨n + 2, 2, none⟩) (by have := HN.out; show n + 2 < _; omega)).trans HF.out.2.2.1; have g3 := (HB12.out.cell (p := ⟨n + 2, 3, none⟩) (by have := HN.out; show n + 2 < _; omega)).trans HR.out.2.2.2.1; have k3 := (HB12.out.frozen (p := ⟨n + 2, 3, none⟩) (by have := HN.out; show n + 2 < _; omega)).trans HF.out.2.2.2.1; have g4 := (HB12.out.cell (p := ⟨n + 2, 4, none⟩) (by have := HN.out; show n + 2 < _; omega)).trans HR.out.2.2.2.2; have k4 := (HB12.out.frozen (p := ⟨n + 2, 4, none⟩) (by have := HN.out; show n + 2 < _; omega)).trans HF.out.2.2.2.2; clear hv hb12))
    all_goals
      go_wp2
      go_end0
      refine ⟨rfl, w12, HB12.out, ?_⟩
      rw [HMS.out.1, HMS.out.2, HTE.out, HAL.out]
  | false =>
    have HAL := Aside0.mk hal
    clear hal
    go_region_with (first
      | (go_at_call 60; refine Calls.mono (resolved_calls y b1 b2 ms me tt _ ?ha) ?_; (case ha => exact HY7.out.next (Below.refl _ _).drew); rintro r w8 ⟨rfl, hb8⟩; have HR8 := Aside0.mk (below_step (Below.refl w7.heap.size w7).drew hb8); have HB8 := Aside0.mk (below_step HB7.out HR8.out); have HY8 := Aside0.mk (HY7.out.next HR8.out); have HMA8 := Aside0.mk (HMA7.out.next HR8.out); have HMB8 := Aside0.mk (HMB7.out.next HR8.out); have e80 := (HR8.out.cell (p := ⟨tb, 0, none⟩) TL.out.1).trans TL.out.2.1; have e81 := (HR8.out.cell (p := ⟨tb, 1, none⟩) TL.out.1).trans TL.out.2.2; clear hb8)
      | (go_at_call 61; refine Calls.mono (status_calls y b1 b2 ms me tt _ ?ha) ?_; (case ha => exact HY8.out); rintro r w9 ⟨rfl, hb9⟩; have HB9 := Aside0.mk (below_step HB8.out hb9); have HY9 := Aside0.mk (HY8.out.next hb9); have HMA9 := Aside0.mk (HMA8.out.next hb9); have HMB9 := Aside0.mk (HMB8.out.next hb9); clear hb9)
      | (go_at_call 62; refine Calls.mono (aname_calls y b1 b2 20 ms me la _ ?ha ?hm) ?_; (case ha => exact HY9.out); (case hm => exact HMA9.out); rintro r w10 ⟨rfl, hb10⟩; have HB10 := Aside0.mk (below_step HB9.out hb10); have HY10 := Aside0.mk (HY9.out.next hb10); have HMA10 := Aside0.mk (HMA9.out.next hb10); have HMB10 := Aside0.mk (HMB9.out.next hb10); clear hb10)
      | (go_at_call 63; refine Calls.mono (afinger_calls y b1 b2 20 ms me la _ ?ha ?hm HSA.out) ?_; (case ha => exact HY10.out); (case hm => exact HMA10.out); rintro r w11 ⟨rfl, hb11⟩; have HB11 := Aside0.mk (below_step HB10.out hb11); have HY11 := Aside0.mk (HY10.out.next hb11); have HMA11 := Aside0.mk (HMA10.out.next hb11); have HMB11 := Aside0.mk (HMB10.out.next hb11); clear hb11)
      | (go_at_call 64; refine Calls.mono (avalid_calls y b1 b2 20 20 ms me la lb _ ?ha ?hm ?hm2 HSA.out HSB.out ?ht) ?_; (case ha => exact HY11.out); (case hm => exact HMA11.out); (case hm2 => exact HMB11.out); (case ht => exact HT.out.next HB11.out); rintro r w12 ⟨⟨v12, rfl, hv⟩, hb12⟩; obtain ⟨tv, xv, rfl⟩ : ∃ tv xv, v12 = .iface tv xv := (by rcases hv with ⟨h, _⟩ | ⟨_, h⟩; (· rw [HAL.out] at h; cases h); (· exact h)); have HB12 := Aside0.mk (below_step HB11.out hb12); have g0 := (HB12.out.cell (p := ⟨n + 2, 0, none⟩) (by have := HN.out; show n + 2 < _; omega)).trans HR.out.1; have k0 := (HB12.out.frozen (p := ⟨n + 2, 0, none⟩) (by have := HN.out; show n + 2 < _; omega)).trans HF.out.1; have g1 := (HB12.out.cell (p := ⟨n + 2, 1, none⟩) (by have := HN.out; show n + 2 < _; omega)).trans HR.out.2.1; have k1 := (HB12.out.frozen (p := ⟨n + 2, 1, none⟩) (by have := HN.out; show n + 2 < _; omega)).trans HF.out.2.1; have g2 := (HB12.out.cell (p := ⟨n + 2, 2, none⟩) (by have := HN.out; show n + 2 < _; omega)).trans HR.out.2.2.1; have k2 := (HB12.out.frozen (p := ⟨n + 2, 2, none⟩) (by have := HN.out; show n + 2 < _; omega)).trans HF.out.2.2.1; have g3 := (HB12.out.cell (p := ⟨n + 2, 3, none⟩) (by have := HN.out; show n + 2 < _; omega)).trans HR.out.2.2.2.1; have k3 := (HB12.out.frozen (p := ⟨n + 2, 3, none⟩) (by have := HN.out; show n + 2 < _; omega)).trans HF.out.2.2.2.1; have g4 := (HB12.out.cell (p := ⟨n + 2, 4, none⟩) (by have := HN.out; show n + 2 < _; omega)).trans HR.out.2.2.2.2; have k4 := (HB12.out.frozen (p := ⟨n + 2, 4, none⟩) (by have := HN.out; show n + 2 < _; omega)).trans HF.out.2.2.2.2; clear hv hb12))
    all_goals
      go_wp2
      go_end0
      refine ⟨rfl, w12, HB12.out, ?_⟩
      rw [HMS.out.1, HMS.out.2, HTE.out, HAL.out]
end Go.Proofs.YtobbfenkdnaanaaGreatDoor
