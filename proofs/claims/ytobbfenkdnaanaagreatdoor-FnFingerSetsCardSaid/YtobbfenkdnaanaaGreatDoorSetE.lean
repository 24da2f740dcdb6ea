/- impl.SetCompare, by contract. impl.SetCompare, by contract. -/
import Derived.Test.YtobbfenkdnaanaaGreatDoorSrfA
import Derived.Test.YtobbfenkdnaanaaGreatDoorMcA
import Derived.Test.YtobbfenkdnaanaaGreatDoorMrgA
import Derived.Deep.DeepCutAuto
import Derived.Deep.AppendLies
set_option linter.unusedVariables false
set_option linter.unusedSimpArgs false
namespace Go.Proofs.YtobbfenkdnaanaaGreatDoor
open Go.RowKit Go.Maps Go.WideMaps Go.Sort

theorem grownBy_setCell (w : World) (p : Addr) (v : Value) : w.grownBy (w.setCell p v) (some p.block) := by
  refine ⟨rfl, rfl, rfl, by simp [World.setCell], fun k hk hne => ?_⟩
  unfold World.setCell
  rw [Array.getElem?_modify, if_neg (fun e => hne (by rw [e]))]

/-- The blocks behind the five boxes are as they were. -/
def Far (n : Nat) (W w' : World) : Prop := ∀ k, n + 5 ≤ k → k < W.heap.size → w'.heap[k]? = W.heap[k]?
theorem Far.of_below {n : Nat} {W w' : World} (h : Below W.heap.size W w') : Far n W w' := fun k _ hk => h.block k hk
theorem Far.below {n : Nat} {W w1 w2 : World} (h : Far n W w1) (hs : W.heap.size ≤ w1.heap.size) (hb : Below w1.heap.size w1 w2) : Far n W w2 := fun k h1 hk => (hb.block k (Nat.lt_of_lt_of_le hk hs)).trans (h k h1 hk)
theorem Far.grown {n : Nat} {W w1 w2 : World} {row : Option Nat} (h : Far n W w1) (hs : W.heap.size ≤ w1.heap.size) (hg : w1.grownBy w2 row) (hr : ∀ k, row = some k → W.heap.size ≤ k ∨ k < n + 5) : Far n W w2 := fun k h1 hk =>
  (hg.block k (Nat.lt_of_lt_of_le hk hs) (fun e => by rcases hr k e.symm with h2 | h2 <;> omega)).trans (h k h1 hk)
theorem Far.alloc {n : Nat} {W w1 : World} (h : Far n W w1) (hs : W.heap.size ≤ w1.heap.size) (o : Obj) : Far n W (w1.alloc o) := fun k h1 hk => by
  rw [← h k h1 hk]
  have hlt : k < w1.heap.size := Nat.lt_of_lt_of_le hk hs
  show (w1.heap.push o)[k]? = _
  rw [Array.getElem?_push, if_neg (by omega)]

theorem RowLb.ne_map {w : World} {base b n : Nat} {v : Value} {l l' : LL} (h : RowLb w base v l) (hm : MapIs w b n l') : some b ≠ v.ownBlock := by
  rcases h.2 with ⟨hnil, _⟩ | ⟨g, cap, cur, hv, hbase, hb, _⟩
  · rw [hnil]; simp [Value.ownBlock]
  · obtain ⟨D, ⟨es, clock, hh, _⟩, _⟩ := hm
    rw [hv]
    intro e
    have e' : b = g := Option.some.inj e
    rw [e', hb] at hh
    cases hh
theorem RowLb.ne_iter {w : World} {base : Nat} {v : Value} {l' : LL} {b r n : Nat} {l d : LL} {cnt : Nat} (h : RowLb w base v l') (hr : RangeIs w b r n l d cnt) : some r ≠ v.ownBlock := by
  obtain ⟨D, left, hrg, _⟩ := hr
  exact row_ne_iter h hrg

set_option maxHeartbeats 2000000 in
set_option maxRecDepth 100000 in
theorem sc1_calls (a a' : Option Addr) (cap cap' : Nat) (la lb : LL) (w W : World) (hw : Below w.heap.size w W) (hn : w.heap.size + 5 ≤ W.heap.size) (hla : Labs w a la) (hlb : Labs w a' lb) (hoa : Once la) (hob : Once lb) (hsa : Sized la) (hsb : Sized lb)
    (c0 : W.cell? ⟨w.heap.size, 0, none⟩ = some (.slice a la.length cap)) (c1 : W.cell? ⟨w.heap.size + 1, 0, none⟩ = some (.slice a' lb.length cap'))
    (c2 : W.cell? ⟨w.heap.size + 2, 0, none⟩ = some (.bool false)) (c3 : W.cell? ⟨w.heap.size + 3, 0, none⟩ = some (.bool false)) (c4 : W.cell? ⟨w.heap.size + 4, 0, none⟩ = some (.slice none 0 0))
    (f2 : W.frozen? ⟨w.heap.size + 2, 0, none⟩ = false) (f3 : W.frozen? ⟨w.heap.size + 3, 0, none⟩ = false) (f4 : W.frozen? ⟨w.heap.size + 4, 0, none⟩ = false) :
    Calls Tryz.prog 74 #[.pointer (some ⟨w.heap.size, 0, none⟩), .pointer (some ⟨w.heap.size + 1, 0, none⟩), .pointer (some ⟨w.heap.size + 2, 0, none⟩), .pointer (some ⟨w.heap.size + 3, 0, none⟩), .pointer (some ⟨w.heap.size + 4, 0, none⟩)] W fun e w' =>
      e = .returned (.tuple #[]) ∧ Below w.heap.size w w' ∧ W.heap.size ≤ w'.heap.size ∧ w'.cell? ⟨w.heap.size + 2, 0, none⟩ = some (.bool (sameB la lb)) ∧ w'.cell? ⟨w.heap.size + 3, 0, none⟩ = some (.bool (befB la lb)) ∧
        Far w.heap.size W w' ∧ w'.frozen? ⟨w.heap.size + 2, 0, none⟩ = false ∧ w'.frozen? ⟨w.heap.size + 3, 0, none⟩ = false ∧ w'.frozen? ⟨w.heap.size + 4, 0, none⟩ = false ∧ ∃ g c, W.heap.size ≤ g ∧ w'.cell? ⟨w.heap.size + 4, 0, none⟩ = some (.slice (some ⟨g, 0, none⟩) (mrgS la lb).length c) ∧ Labs w' (some ⟨g, 0, none⟩) (mrgS la lb) := by
  obtain ⟨n, hnn⟩ : ∃ n, w.heap.size = n := ⟨_, rfl⟩
  rw [hnn] at hn c0 c1 c2 c3 c4 f2 f3 f4 ⊢
  have HC := Aside0.mk (And.intro c2 (And.intro c3 c4))
  have HF := Aside0.mk (And.intro f2 (And.intro f3 f4))
  have HW := Aside0.mk hw
  have HNN := Aside0.mk hnn
  have hla1 := hla.next hw
  have hlb1 := hlb.next hw
  have HLA := Aside0.mk (show Labs W.drew a la from hla1)
  have HLB := Aside0.mk (show Labs W.drew a' lb from hlb1)
  have HO := Aside0.mk (And.intro hoa hob)
  have HSA := Aside0.mk hsa
  have HSB := Aside0.mk hsb
  have HN := Aside0.mk hn
  have C1 := Aside0.mk (show W.drew.cell? ⟨n + 1, 0, none⟩ = some (.slice a' lb.length cap') from c1)
  clear hla hlb hla1 hlb1 hoa hob hsa hsb c2 c3 c4 f2 f3 f4 hn hw hnn
  go_enter Tryz.func74, Tryz.ntmps74
  go_wp2_with fail
  go_cut [5, 6] (fun v5 v6 w' => ∃ b1 b2, v5 = .map (some b1) ∧ v6 = .map (some b2) ∧ W.heap.size ≤ b1 ∧ W.heap.size ≤ b2 ∧ MapIs w' b1 20 la ∧ MapIs w' b2 20 lb ∧ Below W.heap.size W w')
  case first =>
    go_region_with (first
      | (go_at_call_of 50 (Value.slice a la.length cap); refine Calls.mono (set_calls a cap la _ ?hl HO.out.1 HSA.out) ?_; (case hl => exact HLA.out); rintro e w1 ⟨b1, rfl, hle1, hm1, hbl1⟩; have HM1 := Aside0.mk hm1; have HB1 := Aside0.mk hbl1; have e1 := (hbl1.cell (p := ⟨n + 1, 0, none⟩) (by have := HN.out; show n + 1 < W.heap.size; omega)).trans C1.out; have HL1 := Aside0.mk hle1; clear hle1 hm1 hbl1)
      | (go_at_call_of 50 (Value.slice a' lb.length cap'); refine Calls.mono (set_calls a' cap' lb _ ?hl HO.out.2 HSB.out) ?_; (case hl => exact HLB.out.next HB1.out); rintro e w2 ⟨b2, rfl, hle2, hm2, hbl2⟩; have HM2 := Aside0.mk hm2; have HB2 := Aside0.mk hbl2; have HL2 := Aside0.mk hle2; clear hle2 hm2 hbl2))
    all_goals
      have HW2 := Aside0.mk (below_step (below_step (Below.refl W.heap.size W).drew HB1.out) HB2.out)
      have HA2 := Aside0.mk (HM1.out.next HB2.out)
      clear e1
      go_wp2_with fail
      go_meet
      exact ⟨b1, b2, rfl, rfl, HL1.out, Nat.le_trans HB1.out.size HL2.out, HA2.out, HM2.out, HW2.out⟩
  case rest =>
    obtain ⟨b1, b2, rfl, rfl, hb1, hb2, hm1, hm2, hw2⟩ := hcut
    have HW2 := Aside0.mk hw2
    have HA2 := Aside0.mk hm1
    have HM2 := Aside0.mk hm2
    have HBB := Aside0.mk (And.intro hb1 hb2)
    clear hb1 hb2 hm1 hm2 hw2
    go_wp2_with fail
    refine (equal_calls b1 b2 20 20 la lb _ HA2.out HM2.out HSA.out HSB.out).mono ?_
    rintro e w3 ⟨rfl, hb3⟩
    have HW3 := Aside0.mk (below_step HW2.out hb3)
    have HA3 := Aside0.mk (HA2.out.next hb3)
    have HM3 := Aside0.mk (HM2.out.next hb3)
    clear hb3
    go_wp2_with fail
    refine (before1_calls b1 b2 20 20 la lb _ HA3.out HM3.out HSA.out HSB.out).mono ?_
    rintro e w4 ⟨rfl, hb4⟩
    have HW4 := Aside0.mk (below_step HW3.out hb4)
    have HA4 := Aside0.mk (HA3.out.next hb4)
    have HM4 := Aside0.mk (HM3.out.next hb4)
    have HL4 := Aside0.mk (show n + 5 ≤ w4.heap.size by have := HW4.out.size; have := HN.out; omega)
    have g2 := (HW4.out.cell (p := ⟨n + 2, 0, none⟩) (by have := HN.out; show n + 2 < _; omega)).trans HC.out.1
    have g3 := (HW4.out.cell (p := ⟨n + 3, 0, none⟩) (by have := HN.out; show n + 3 < _; omega)).trans HC.out.2.1
    have g4 := (HW4.out.cell (p := ⟨n + 4, 0, none⟩) (by have := HN.out; show n + 4 < _; omega)).trans HC.out.2.2
    have k2 := (HW4.out.frozen (p := ⟨n + 2, 0, none⟩) (by have := HN.out; show n + 2 < _; omega)).trans HF.out.1
    have k3 := (HW4.out.frozen (p := ⟨n + 3, 0, none⟩) (by have := HN.out; show n + 3 < _; omega)).trans HF.out.2.1
    have k4 := (HW4.out.frozen (p := ⟨n + 4, 0, none⟩) (by have := HN.out; show n + 4 < _; omega)).trans HF.out.2.2
    have hne : n + 4 < w4.heap.size := by have := HL4.out; omega
    have hs5 : ((w4.setCell ⟨n + 2, 0, none⟩ (.bool (sameB la lb))).setCell ⟨n + 3, 0, none⟩ (.bool (befB la lb))).heap.size = w4.heap.size := by simp [World.setCell]
    have x4 : (((w4.setCell ⟨n + 2, 0, none⟩ (.bool (sameB la lb))).setCell ⟨n + 3, 0, none⟩ (.bool (befB la lb))).alloc (.cells #[] 70)).cell? ⟨n + 4, 0, none⟩ = some (.slice none 0 0) := by
      rw [World.cell?_alloc_past _ _ _ (by rw [hs5]; exact hne)]
      simp [go_sem, g4]
    have y4 : (((w4.setCell ⟨n + 2, 0, none⟩ (.bool (sameB la lb))).setCell ⟨n + 3, 0, none⟩ (.bool (befB la lb))).alloc (.cells #[] 70)).frozen? ⟨n + 4, 0, none⟩ = false := by
      rw [World.frozen?_alloc_past _ _ _ (by rw [hs5]; exact hne)]
      simp [go_sem, k4]
    have HS5 := Aside0.mk hs5
    have HG := Aside0.mk (And.intro g2 (And.intro g3 (And.intro g4 (And.intro k2 (And.intro k3 k4)))))
    have HB5 := Aside0.mk (below_alloc (Below.setCell (p := ⟨n + 3, 0, none⟩) (Below.setCell (p := ⟨n + 2, 0, none⟩) (below_step HW.out HW4.out) (show w.heap.size ≤ n + 2 by have := HNN.out; omega) (.bool (sameB la lb))) (show w.heap.size ≤ n + 3 by have := HNN.out; omega) (.bool (befB la lb))) (.cells #[] 70))
    have HX := Aside0.mk (And.intro x4 y4)
    clear hb4 hne
    go_wp2_with fail
    obtain ⟨W6, hW6⟩ : ∃ W6 : World, W6 = (((w4.setCell ⟨n + 2, 0, none⟩ (.bool (sameB la lb))).setCell ⟨n + 3, 0, none⟩ (.bool (befB la lb))).alloc (.cells #[] 70)).setCell ⟨n + 4, 0, none⟩ (.slice (some ⟨w4.heap.size, 0, none⟩) 0 0) := ⟨_, rfl⟩
    rw [← hW6]
    have hne : n + 4 < w4.heap.size := by have := HL4.out; omega
    have HB6 := Aside0.mk (show Below w.heap.size w W6 from by rw [hW6]; exact Below.setCell (p := ⟨n + 4, 0, none⟩) HB5.out (show w.heap.size ≤ n + 4 by have := HNN.out; omega) _)
    have kp : ∀ {b : Nat} {l : LL}, n + 5 ≤ b → MapIs w4 b 20 l → MapIs W6 b 20 l := fun {b l} hb hm => by
      rw [hW6]
      refine (((hm.kept (grownBy_setCell w4 ⟨n + 2, 0, none⟩ _) ?_).kept (grownBy_setCell _ ⟨n + 3, 0, none⟩ _) ?_).alloc _).kept (grownBy_setCell _ ⟨n + 4, 0, none⟩ _) ?_
      · intro e; have := Option.some.inj e; simp at this; omega
      · intro e; have := Option.some.inj e; simp at this; omega
      · intro e; have := Option.some.inj e; simp at this; omega
    have hn5 := HN.out
    have hb12 := HBB.out
    have HA6 := Aside0.mk (kp (by omega) HA4.out)
    have HM6 := Aside0.mk (kp (by omega) HM4.out)
    have HZ6 := Aside0.mk (show W6.frozen? ⟨n + 2, 0, none⟩ = false ∧ W6.frozen? ⟨n + 3, 0, none⟩ = false from by
      rw [hW6]
      exact ⟨by rw [World.frozen?_setCell, World.frozen?_alloc_past _ _ _ (by rw [hs5]; omega), World.frozen?_setCell, World.frozen?_setCell]; exact HG.out.2.2.2.1, by rw [World.frozen?_setCell, World.frozen?_alloc_past _ _ _ (by rw [hs5]; omega), World.frozen?_setCell, World.frozen?_setCell]; exact HG.out.2.2.2.2.1⟩)
    have HFR6 := Aside0.mk (show Far n W W6 from by
      have h4 := HW4.out.size
      rw [hW6]
      exact ((((Far.of_below HW4.out).grown h4 (grownBy_setCell _ ⟨n + 2, 0, none⟩ _) (fun k hk => .inr (by have := Option.some.inj hk; simp at this; omega))).grown (by simp [World.setCell]; exact h4) (grownBy_setCell _ ⟨n + 3, 0, none⟩ _) (fun k hk => .inr (by have := Option.some.inj hk; simp at this; omega))).alloc (by simp [World.setCell]; exact h4) _).grown (by simp [World.setCell]; omega) (grownBy_setCell _ ⟨n + 4, 0, none⟩ _) (fun k hk => .inr (by have := Option.some.inj hk; simp at this; omega)))
    have HR6 := Aside0.mk (show RowLb W6 W.heap.size (.slice (some ⟨w4.heap.size, 0, none⟩) 0 0) [] from by
      have h := rowLb_empty ((w4.setCell ⟨n + 2, 0, none⟩ (.bool (sameB la lb))).setCell ⟨n + 3, 0, none⟩ (.bool (befB la lb)))
      rw [hs5] at h
      have h' := World.ownsRow.kept (h.mono (show W.heap.size ≤ w4.heap.size from HW4.out.size)) (grownBy_setCell _ ⟨n + 4, 0, none⟩ (.slice (some ⟨w4.heap.size, 0, none⟩) 0 0)) (Or.inr (by intro e; have := Option.some.inj e; simp at this; omega))
      rw [hW6]
      exact h')
    have HC6 := Aside0.mk (show W6.cell? ⟨n + 2, 0, none⟩ = some (.bool (sameB la lb)) ∧ W6.cell? ⟨n + 3, 0, none⟩ = some (.bool (befB la lb)) ∧ W6.cell? ⟨n + 4, 0, none⟩ = some (.slice (some ⟨w4.heap.size, 0, none⟩) 0 0) ∧ W6.frozen? ⟨n + 4, 0, none⟩ = false ∧ n + 5 ≤ W6.heap.size from by
      rw [hW6]
      refine ⟨?_, ?_, ?_, ?_, ?_⟩
      · rw [World.cell?_setCell_other _ _ _ _ (by simp), World.cell?_alloc_past _ _ _ (by rw [hs5]; omega)]; simp [go_sem, HG.out.1]
      · rw [World.cell?_setCell_other _ _ _ _ (by simp), World.cell?_alloc_past _ _ _ (by rw [hs5]; omega)]; simp [go_sem, HG.out.2.1]
      · exact World.cell?_setCell_same _ _ _ HX.out.1
      · rw [World.frozen?_setCell]; exact HX.out.2
      · simp [World.setCell]; omega)
    have HWS6 := Aside0.mk (show W.heap.size ≤ W6.heap.size from by rw [hW6]; have := HW4.out.size; simp [World.setCell]; omega)
    clear hW6 kp x4 y4 hs5 hne g2 g3 g4 k2 k3 k4
    refine (merge_calls b1 b2 20 20 la lb _ HA6.out HM6.out HSA.out HSB.out).mono ?_
    rintro e w7 ⟨b3, rfl, hle7, hm7, hb7⟩
    have HB7 := Aside0.mk (below_step HB6.out hb7)
    have HR7 := Aside0.mk (HR6.out.next hb7)
    have HC7 := Aside0.mk (show w7.cell? ⟨n + 2, 0, none⟩ = some (.bool (sameB la lb)) ∧ w7.cell? ⟨n + 3, 0, none⟩ = some (.bool (befB la lb)) ∧ w7.cell? ⟨n + 4, 0, none⟩ = some (.slice (some ⟨w4.heap.size, 0, none⟩) 0 0) ∧ w7.frozen? ⟨n + 4, 0, none⟩ = false ∧ n + 5 ≤ w7.heap.size from by
      obtain ⟨d2, d3, d4, d5, d6⟩ := HC6.out
      exact ⟨(hb7.cell (p := ⟨n + 2, 0, none⟩) (show n + 2 < _ by omega)).trans d2, (hb7.cell (p := ⟨n + 3, 0, none⟩) (show n + 3 < _ by omega)).trans d3, (hb7.cell (p := ⟨n + 4, 0, none⟩) (show n + 4 < _ by omega)).trans d4, (hb7.frozen (p := ⟨n + 4, 0, none⟩) (show n + 4 < _ by omega)).trans d5, Nat.le_trans d6 hb7.size⟩)
    have HM7 := Aside0.mk hm7
    have HL7 := Aside0.mk (show n + 5 ≤ b3 from Nat.le_trans HC6.out.2.2.2.2 hle7)
    obtain ⟨i0, hi, hz0, hz1, hz2⟩ := info_parts infoLb
    have HI := Aside0.mk (And.intro hi (And.intro hz0 (And.intro hz1 hz2)))
    have HMLEN := Aside0.mk (show (mrgL la lb).length ≤ 40 by have h1 := mrg_length la lb; have h2 := HSA.out.1; have h3 := HSB.out.1; omega)
    have HZ7 := Aside0.mk (And.intro ((hb7.frozen (p := ⟨n + 2, 0, none⟩) (by have := HC6.out.2.2.2.2; show n + 2 < _; omega)).trans HZ6.out.1) ((hb7.frozen (p := ⟨n + 3, 0, none⟩) (by have := HC6.out.2.2.2.2; show n + 3 < _; omega)).trans HZ6.out.2))
    have HFR7 := Aside0.mk (HFR6.out.below HWS6.out hb7)
    have HWS7 := Aside0.mk (show W.heap.size ≤ w7.heap.size from Nat.le_trans HWS6.out hb7.size)
    clear hle7 hm7 hb7 hi hz0 hz1 hz2 hn5 hb12
    go_wp2_with (at_range; refine wpList_range_label _ rfl _ 75 rfl Tryz.underlying75 b3 40 (mrgL la lb) rfl HM7.out ?_; intro w8 hrg8 hg8 hs8; have HRG := Aside0.mk hrg8; have HG8 := Aside0.mk (And.intro hg8 hs8); clear hrg8 hg8 hs8)
    go_frame
    have HB8 := Aside0.mk (HB7.out.grown HG8.out.1 HB7.out.size (fun k hk => by cases hk))
    have HZ8 := Aside0.mk (And.intro ((HG8.out.1.frozen_far ⟨n + 2, 0, none⟩ (by have := HC7.out.2.2.2.2; show n + 2 < _; omega) (by simp)).trans HZ7.out.1) ((HG8.out.1.frozen_far ⟨n + 3, 0, none⟩ (by have := HC7.out.2.2.2.2; show n + 3 < _; omega) (by simp)).trans HZ7.out.2))
    have HFR8 := Aside0.mk (HFR7.out.grown HWS7.out HG8.out.1 (fun k hk => by cases hk))
    have HR8 := Aside0.mk (World.ownsRow.kept HR7.out HG8.out.1 (Or.inr (by simp [Value.ownBlock])))
    have HC8 := Aside0.mk (show w8.cell? ⟨n + 2, 0, none⟩ = some (.bool (sameB la lb)) ∧ w8.cell? ⟨n + 3, 0, none⟩ = some (.bool (befB la lb)) ∧ w8.cell? ⟨n + 4, 0, none⟩ = some (.slice (some ⟨w4.heap.size, 0, none⟩) 0 0) ∧ w8.frozen? ⟨n + 4, 0, none⟩ = false from by
      obtain ⟨d2, d3, d4, d5, d6⟩ := HC7.out
      exact ⟨(HG8.out.1.cell_far ⟨n + 2, 0, none⟩ (show n + 2 < _ by omega) (by simp)).trans d2, (HG8.out.1.cell_far ⟨n + 3, 0, none⟩ (show n + 3 < _ by omega) (by simp)).trans d3, (HG8.out.1.cell_far ⟨n + 4, 0, none⟩ (show n + 4 < _ by omega) (by simp)).trans d4, (HG8.out.1.frozen_far ⟨n + 4, 0, none⟩ (show n + 4 < _ by omega) (by simp)).trans d5⟩)
    have HN7 := Aside0.mk HC7.out.2.2.2.2
    have HW7 := Aside0.mk (show W.heap.size ≤ w7.heap.size from HWS7.out)
    go_loopg [8] (mrgL la lb).length (fun g v8 w' => ∃ (d : LL) (u : Value), Aside0 (RangeIs w' b3 w7.heap.size 40 (mrgL la lb) d g) ∧ Aside0 (w'.cell? ⟨n + 4, 0, none⟩ = some u) ∧ Aside0 (RowLb w' W.heap.size u d) ∧ Aside0 (u ≠ .slice none 0 0) ∧ Aside0 (w'.frozen? ⟨n + 4, 0, none⟩ = false) ∧ Aside0 (w'.cell? ⟨n + 2, 0, none⟩ = some (.bool (sameB la lb)) ∧ w'.cell? ⟨n + 3, 0, none⟩ = some (.bool (befB la lb))) ∧ Aside0 (Below w.heap.size w w') ∧ Aside0 (w7.heap.size ≤ w'.heap.size) ∧ Aside0 (Far n W w') ∧ Aside0 (w'.frozen? ⟨n + 2, 0, none⟩ = false ∧ w'.frozen? ⟨n + 3, 0, none⟩ = false))
    case atStart => exact ⟨[], _, HRG, ⟨HC8.out.2.2.1⟩, HR8, ⟨by simp⟩, ⟨HC8.out.2.2.2⟩, ⟨HC8.out.1, HC8.out.2.1⟩, HB8, ⟨HG8.out.1.size⟩, HFR8, HZ8⟩
    case round =>
      obtain ⟨d, u, HR, HU, HO2, HV, HFZ, HC, HBW, HSZ, HFR, HFZ2⟩ := hrel
      go_wp2_with (at_next; refine wpList_next_label _ rfl _ rfl b3 w7.heap.size 40 (mrgL la lb) d gk rfl HR.out ?_ ?_)
      · intro hperm
        have HP := Aside0.mk hperm
        clear hperm
        obtain ⟨g, c, hu, hbase, hgl⟩ := HO2.out.form HV.out
        subst hu
        have u4 := HU.out
        have hH := holds_of_row HO2.out
        have hdl : d.length = (mrgL la lb).length := HP.out.length_eq
        have HS := Aside0.mk (show Calls Tryz.prog 78 #[.slice (some ⟨g, 0, none⟩) d.length c, .func (.func 79) #[] #[]] wr fun e w' => e = .returned (.tuple #[]) ∧ Below w.heap.size w w' ∧ W.heap.size ≤ w'.heap.size ∧ w'.cell? ⟨n + 2, 0, none⟩ = some (.bool (sameB la lb)) ∧ w'.cell? ⟨n + 3, 0, none⟩ = some (.bool (befB la lb)) ∧ Far n W w' ∧ w'.frozen? ⟨n + 2, 0, none⟩ = false ∧ w'.frozen? ⟨n + 3, 0, none⟩ = false ∧ w'.frozen? ⟨n + 4, 0, none⟩ = false ∧ W.heap.size ≤ g ∧ w'.cell? ⟨n + 4, 0, none⟩ = some (.slice (some ⟨g, 0, none⟩) (mrgS la lb).length c) ∧ Labs w' (some ⟨g, 0, none⟩) (mrgS la lb) from by
          refine (sorts_calls g c d wr hH hgl (by have := HMLEN.out; omega)).mono ?_
          rintro e w' ⟨rfl, d', m, os, hp, hsd, rfl⟩
          have hg := grownBy_sortedL (w := wr) (g := g) (n := m) (os := os) d'
          have hm7 := HN7.out
          have hsz := HSZ.out
          have hn5 := HN.out
          have hnn := HNN.out
          have hm := mrgS_of HO.out.1 HO.out.2 (d := d.toArray) (d' := d') HP.out hp (by rw [List.size_toArray]; exact hsd)
          have hgn : ∀ k, k ≤ 4 → some (n + k) ≠ some g := fun k hk e => by have := Option.some.inj e; omega
          have hml : (mrgS la lb).length = d.length := by rw [(mrgS_is la lb).1.length_eq, hdl]
          refine ⟨rfl, HBW.out.grown hg (by omega) (fun k hk => by cases hk; omega), ?_, (hg.cell_far ⟨n + 2, 0, none⟩ (show n + 2 < _ by omega) (hgn 2 (by omega))).trans HC.out.1, (hg.cell_far ⟨n + 3, 0, none⟩ (show n + 3 < _ by omega) (hgn 3 (by omega))).trans HC.out.2, HFR.out.grown (Nat.le_trans HW7.out HSZ.out) hg (fun k hk => by cases hk; exact .inl hbase), (hg.frozen_far ⟨n + 2, 0, none⟩ (show n + 2 < _ by omega) (hgn 2 (by omega))).trans HFZ2.out.1, (hg.frozen_far ⟨n + 3, 0, none⟩ (show n + 3 < _ by omega) (hgn 3 (by omega))).trans HFZ2.out.2, (hg.frozen_far ⟨n + 4, 0, none⟩ (show n + 4 < _ by omega) (hgn 4 (by omega))).trans HFZ.out, hbase, ?_, ?_⟩
          · have h1 := hg.size
            have h2 := HW7.out
            omega
          · rw [hml]; exact (hg.cell_far ⟨n + 4, 0, none⟩ (show n + 4 < _ by omega) (hgn 4 (by omega))).trans u4
          · rw [← hm]
            exact labs_of_holds (holdsK_sortWorldK encL 2 wr g 0 m d.toArray d' os hgl hH hp.1) (lt_sortWorldK encL 2 wr g 0 m d' os hgl))
        clear hH hdl hbase hgl
        go_wp2_with (go_at_call 78; refine HS.out.mono ?_; rintro e w10 ⟨rfl, hpost⟩; have HPO := Aside0.mk hpost; clear hpost)
        go_end0
        obtain ⟨p1, p2, p3, p4, p7, p8, p9, p10, p11, p5, p6⟩ := HPO.out
        exact ⟨rfl, by rw [HNN.out] at p1; exact p1, p2, p3, p4, p7, p8, p9, p10, g, c, p11, p5, p6⟩
      · intro x v w9 cnt1 hlx hdx hxl hrg1 hlt hg1 hs1 hen
        have hm7 := HN7.out
        have hsz := HSZ.out
        have hdl := HR.out.count
        have hrn : ∀ k, k ≤ 4 → some (n + k) ≠ some w7.heap.size := fun k hk e => by have := Option.some.inj e; omega
        have HB9 := Aside0.mk (HBW.out.grown hg1 HBW.out.size (fun k hk => by cases hk; have := HB7.out.size; omega))
        have HR9 := Aside0.mk (show RowLb w9 W.heap.size u d from World.ownsRow.kept HO2.out hg1 (Or.inr (HO2.out.ne_iter HR.out).symm))
        have HFR9 := Aside0.mk (HFR.out.grown (Nat.le_trans HW7.out hsz) hg1 (fun k hk => by cases hk; exact .inl HW7.out))
        have HFZ9 := Aside0.mk (And.intro ((hg1.frozen_far ⟨n + 2, 0, none⟩ (show n + 2 < _ by omega) (hrn 2 (by omega))).trans HFZ2.out.1) ((hg1.frozen_far ⟨n + 3, 0, none⟩ (show n + 3 < _ by omega) (hrn 3 (by omega))).trans HFZ2.out.2))
        have z2 := (hg1.cell_far ⟨n + 2, 0, none⟩ (show n + 2 < _ by omega) (hrn 2 (by omega))).trans HC.out.1
        have z3 := (hg1.cell_far ⟨n + 3, 0, none⟩ (show n + 3 < _ by omega) (hrn 3 (by omega))).trans HC.out.2
        have z4 := (hg1.cell_far ⟨n + 4, 0, none⟩ (show n + 4 < _ by omega) (hrn 4 (by omega))).trans HU.out
        have q4 := (hg1.frozen_far ⟨n + 4, 0, none⟩ (show n + 4 < _ by omega) (hrn 4 (by omega))).trans HFZ.out
        have HZ := Aside0.mk (And.intro z2 (And.intro z3 (And.intro z4 q4)))
        have HRG1 := Aside0.mk hrg1
        have HSZ9 := Aside0.mk (show w7.heap.size ≤ w9.heap.size by omega)
        have HDL := Aside0.mk (show d.length ≤ 40 by have := HMLEN.out; omega)
        have HLT := Aside0.mk (show ∀ k, k ≤ 4 → (⟨n + k, 0, none⟩ : Addr).block < (w9.alloc (.cells #[.string x, .string v] 70)).heap.size from fun k hk => by show n + k < _; simp; omega)
        have HLT9 := Aside0.mk (show ∀ k, k ≤ 4 → n + k < w9.heap.size from fun k hk => by omega)
        have HNE := Aside0.mk (show ∀ k, k ≤ 4 → some (⟨n + k, 0, none⟩ : Addr).block ≠ u.ownBlock from fun k hk e => by have := (World.ownsRow.lt HR9.out _ e.symm).1; have h5 := HN.out; simp at this; omega)
        have HAL := Aside0.mk (show ∀ k, k ≤ 4 → ∀ y, w9.cell? ⟨n + k, 0, none⟩ = some y → (w9.alloc (.cells #[.string x, .string v] 70)).cell? ⟨n + k, 0, none⟩ = some y from fun k hk y hy => by rw [World.cell?_alloc_past _ _ _ (by omega)]; exact hy)
        have HAF := Aside0.mk (show (w9.alloc (.cells #[.string x, .string v] 70)).frozen? ⟨n + 4, 0, none⟩ = false from by rw [World.frozen?_alloc_past _ _ _ (by omega)]; exact q4)
        clear hlx hdx hxl hrg1 hg1 hs1 hdl hrn z2 z3 q4 hm7 hsz
        go_wp2_with (at_builtin; refine wpList_append_own _ rfl _ _ 22 rfl W.heap.size 70 i0 (.agg #[.string ⟨#[]⟩, .string ⟨#[]⟩]) 2 32 Tryz.underlying22 HI.out.1 HI.out.2.1 HI.out.2.2.1 HI.out.2.2.2 rfl (by decide) _ _ _ rfl (World.ownsRow.alloc HR9.out _) ⟨w9.heap.size, 0, none⟩ 1 1 [.string x, .string v] rfl rfl (cell_two_new _ _ _ _) (by simp [Value.oneCell']) (by have := HDL.out; unfold maxLen; omega) (by have := HDL.out; omega) (by have := HW7.out; have := HSZ9.out; simp; omega) ?_; intro v' w10 hown' hg10 hnil10; have y4 : w10.cell? ⟨n + 4, 0, none⟩ = some u := (hg10.cell_far ⟨n + 4, 0, none⟩ (HLT.out 4 (by omega)) (HNE.out 4 (by omega))).trans (HAL.out 4 (by omega) _ z4); have f4 : w10.frozen? ⟨n + 4, 0, none⟩ = false := (hg10.frozen_far ⟨n + 4, 0, none⟩ (HLT.out 4 (by omega)) (HNE.out 4 (by omega))).trans HAF.out; have hrow : RowLb w10 W.heap.size v' (d ++ [(x, v)]) := (by unfold RowLb; rw [List.length_append, cellsL_append]; exact hown'); obtain ⟨g', c', hvv, hbs', hgl'⟩ := hrow.form (fun e => HV.out (hnil10.1 e).1); subst hvv; have HX10 := Aside0.mk (And.intro hrow hg10); clear hown' hg10 hnil10 hrow hbs' hgl')
        try go_frame
        go_roundg cnt1
        case measure => exact hlt
        case rel =>
          obtain ⟨hrow, hg10⟩ := HX10.out
          rw [show (d ++ [(x, v)]).length = d.length + 1 by simp] at hrow
          have hm7 := HN7.out
          have hn5 := HN.out
          have hnn := HNN.out
          have hb3 := HL7.out
          refine ⟨d ++ [(x, v)], _, ⟨((HRG1.out.alloc _).kept hg10 (HR9.out.ne_map HRG1.out.map) (HR9.out.ne_iter HRG1.out)).kept (grownBy_setCell w10 ⟨n + 4, 0, none⟩ _) (fun e => by have := Option.some.inj e; simp at this; omega) (fun e => by have := Option.some.inj e; simp at this; omega)⟩, ⟨World.cell?_setCell_same _ _ _ y4⟩,
            ⟨World.ownsRow.kept hrow (grownBy_setCell w10 ⟨n + 4, 0, none⟩ _) (Or.inr fun e => by have := (World.ownsRow.lt hrow _ e).1; simp at this; omega)⟩, ⟨by simp⟩, ⟨by rw [World.frozen?_setCell]; exact f4⟩, ⟨?_, ?_⟩, ⟨?_⟩, ⟨?_⟩, ⟨?_⟩, ⟨?_, ?_⟩⟩
          · rw [World.cell?_setCell_other _ _ _ _ (by simp)]
            exact (hg10.cell_far ⟨n + 2, 0, none⟩ (HLT.out 2 (by omega)) (HNE.out 2 (by omega))).trans (HAL.out 2 (by omega) _ HZ.out.1)
          · rw [World.cell?_setCell_other _ _ _ _ (by simp)]
            exact (hg10.cell_far ⟨n + 3, 0, none⟩ (HLT.out 3 (by omega)) (HNE.out 3 (by omega))).trans (HAL.out 3 (by omega) _ HZ.out.2.1)
          · exact Below.setCell (p := ⟨n + 4, 0, none⟩) ((below_alloc HB9.out _).grown hg10 (by have := HSZ9.out; simp; omega) (fun k hk => by have := (World.ownsRow.lt HR9.out k hk).1; omega)) (show w.heap.size ≤ n + 4 by omega) _
          · have h1 := hg10.size
            have h2 := HSZ9.out
            simp [World.setCell] at h1 ⊢
            omega
          · have h1 := hg10.size
            have h2 := HSZ9.out
            have h3 := HW7.out
            simp at h1
            exact ((HFR9.out.alloc (by omega) _).grown (by simp; omega) hg10 (fun k hk => .inl (World.ownsRow.lt HR9.out k hk).1)).grown (by omega) (grownBy_setCell w10 ⟨n + 4, 0, none⟩ _) (fun k hk => .inr (by have := Option.some.inj hk; simp at this; omega))
          · rw [World.frozen?_setCell]
            exact (hg10.frozen_far ⟨n + 2, 0, none⟩ (HLT.out 2 (by omega)) (HNE.out 2 (by omega))).trans ((World.frozen?_alloc_past _ _ _ (HLT9.out 2 (by omega))).trans HFZ9.out.1)
          · rw [World.frozen?_setCell]
            exact (hg10.frozen_far ⟨n + 3, 0, none⟩ (HLT.out 3 (by omega)) (HNE.out 3 (by omega))).trans ((World.frozen?_alloc_past _ _ _ (HLT9.out 3 (by omega))).trans HFZ9.out.2)
end Go.Proofs.YtobbfenkdnaanaaGreatDoor

namespace Go.Proofs.YtobbfenkdnaanaaGreatDoor
open Go.RowKit Go.Maps Go.WideMaps Go.Sort

set_option maxRecDepth 100000 in
/-- As safe_calls, and: nothing but safe's own box is turned behind the call. -/
theorem safe_calls2 (G : Nat) (cap : Array Value) (w : World) (Q : World → Prop)
    (hE : ∀ w, (callFunc G cap).run Tryz.prog w = .ok (.enter G cap) w)
    (hG : Calls Tryz.prog G cap (w.alloc (.cells #[.bool false] 4)) fun e w' => e = .returned (.tuple #[]) ∧ Q w')
    (hQ : ∀ w', Q w' → w'.cell? ⟨w.heap.size, 0, none⟩ = some (.bool false) ∧ w'.frozen? ⟨w.heap.size, 0, none⟩ = false) :
    Calls Tryz.prog 48 #[.func (.func G) #[] cap] w fun e w' => e = .returned (.bool true) ∧ ∃ w1, Q w1 ∧ w1.grownBy w' (some w.heap.size) := by
  have HG := Lib.hid hG; clear hG
  have HQ := Lib.hid hQ; clear hQ
  have hmf : ∀ (fn : Fn) (first cap : Array Value) (w : World), (Instr.makeFunc fn first cap).run Tryz.prog w = .ok (.func fn first cap) w := fun _ _ _ _ => rfl
  go_enter_defers Tryz.func48, Tryz.ntmps48
  go_wp2_with fail
  refine (HG.out).mono ?_
  rintro e w1 ⟨rfl, hq⟩
  obtain ⟨hc, hz⟩ := HQ.out w1 hq
  go_wp2
  refine leaves_cons (f := 114) (args := #[.pointer (some ⟨w.heap.size, 0, none⟩)]) (by simp) (by simp [go_sem]) ?_
  refine (safe1_idle ⟨w.heap.size, 0, none⟩ true _ ?_ ?_).mono ?_
  · simp [go_sem, hc]
  · simp [go_sem, hz]
  rintro e u' w'' ⟨rfl, rfl, rfl⟩
  simp [Leaves, settle, results, Tryz.results48, go_sem, hc]
  exact ⟨w1, hq, (grownBy_setCell w1 ⟨w.heap.size, 0, none⟩ _).trans (grownBy_setCell _ ⟨w.heap.size, 0, none⟩ _)⟩

/-- What the call inside safe leaves. -/
def SCQ (w : World) (la lb : LL) (w' : World) : Prop :=
  Below w.heap.size w w' ∧ w.heap.size + 5 < w'.heap.size ∧ w'.cell? ⟨w.heap.size + 2, 0, none⟩ = some (.bool (sameB la lb)) ∧ w'.cell? ⟨w.heap.size + 3, 0, none⟩ = some (.bool (befB la lb)) ∧
    w'.frozen? ⟨w.heap.size + 2, 0, none⟩ = false ∧ w'.frozen? ⟨w.heap.size + 3, 0, none⟩ = false ∧ w'.frozen? ⟨w.heap.size + 4, 0, none⟩ = false ∧
    w'.cell? ⟨w.heap.size + 5, 0, none⟩ = some (.bool false) ∧ w'.frozen? ⟨w.heap.size + 5, 0, none⟩ = false ∧
    ∃ g c, w.heap.size + 6 ≤ g ∧ w'.cell? ⟨w.heap.size + 4, 0, none⟩ = some (.slice (some ⟨g, 0, none⟩) (mrgS la lb).length c) ∧ Labs w' (some ⟨g, 0, none⟩) (mrgS la lb)

theorem Labs.kept {w w' : World} {g : Nat} {l : LL} {row : Option Nat} (h : Labs w (some ⟨g, 0, none⟩) l) (hg : w.grownBy w' row) (hne : some g ≠ row) : Labs w' (some ⟨g, 0, none⟩) l := by
  rcases h with h | ⟨b, off, ha, hlt, hc⟩
  · exact .inl h
  · cases ha
    exact .inr ⟨g, 0, rfl, Nat.lt_of_lt_of_le hlt hg.size, fun i hi => ⟨(hg.cell_far _ hlt hne).trans (hc i hi).1, (hg.cell_far _ hlt hne).trans (hc i hi).2⟩⟩

set_option maxHeartbeats 1000000 in
set_option maxRecDepth 100000 in
theorem sc_calls (a a' : Option Addr) (cap cap' : Nat) (la lb : LL) (w : World) (hla : Labs w a la) (hlb : Labs w a' lb) (hoa : Once la) (hob : Once lb) (hsa : Sized la) (hsb : Sized lb) :
    Calls Tryz.prog 26 #[.slice a la.length cap, .slice a' lb.length cap'] w fun e w' => ∃ g c, e = .returned (.tuple #[.bool (sameB la lb), .bool (befB la lb), .slice (some ⟨g, 0, none⟩) (mrgS la lb).length c]) ∧ Labs w' (some ⟨g, 0, none⟩) (mrgS la lb) ∧ Below w.heap.size w w' := by
  have HL := Aside0.mk (And.intro hla hlb)
  have HO := Aside0.mk (And.intro hoa (And.intro hob (And.intro hsa hsb)))
  clear hla hlb hoa hob hsa hsb
  go_enter Tryz.func26, Tryz.ntmps26
  go_wp2_with fail
  refine (safe_calls2 74 _ _ (SCQ w la lb) (fun _ => by simp [go_sem]) ?_ ?_).mono ?_
  · have hk : Below w.heap.size w ((((((w.alloc (Obj.cells #[Value.slice a la.length cap] 22)).alloc (Obj.cells #[Value.slice a' lb.length cap'] 22)).alloc (Obj.cells #[Value.bool false] 4)).alloc (Obj.cells #[Value.bool false] 4)).alloc (Obj.cells #[Value.slice none 0 0] 22)).alloc (Obj.cells #[Value.bool false] 4)) :=
      below_alloc (below_alloc (below_alloc (below_alloc (below_alloc (below_alloc (Below.refl _ _) _) _) _) _) _) _
    have hc5 : ((((((w.alloc (Obj.cells #[Value.slice a la.length cap] 22)).alloc (Obj.cells #[Value.slice a' lb.length cap'] 22)).alloc (Obj.cells #[Value.bool false] 4)).alloc (Obj.cells #[Value.bool false] 4)).alloc (Obj.cells #[Value.slice none 0 0] 22)).alloc (Obj.cells #[Value.bool false] 4)).cell? ⟨w.heap.size + 5, 0, none⟩ = some (.bool false) := by simp [go_sem]
    have hf5 : ((((((w.alloc (Obj.cells #[Value.slice a la.length cap] 22)).alloc (Obj.cells #[Value.slice a' lb.length cap'] 22)).alloc (Obj.cells #[Value.bool false] 4)).alloc (Obj.cells #[Value.bool false] 4)).alloc (Obj.cells #[Value.slice none 0 0] 22)).alloc (Obj.cells #[Value.bool false] 4)).frozen? ⟨w.heap.size + 5, 0, none⟩ = false := by simp [go_sem]
    have hsz : ((((((w.alloc (Obj.cells #[Value.slice a la.length cap] 22)).alloc (Obj.cells #[Value.slice a' lb.length cap'] 22)).alloc (Obj.cells #[Value.bool false] 4)).alloc (Obj.cells #[Value.bool false] 4)).alloc (Obj.cells #[Value.slice none 0 0] 22)).alloc (Obj.cells #[Value.bool false] 4)).heap.size = w.heap.size + 6 := by simp
    refine (sc1_calls a a' cap cap' la lb w _ hk (by rw [hsz]; omega) HL.out.1 HL.out.2 HO.out.1 HO.out.2.1 HO.out.2.2.1 HO.out.2.2.2 (by simp [go_sem]) (by simp [go_sem]) (by simp [go_sem]) (by simp [go_sem]) (by simp [go_sem]) (by simp [go_sem]) (by simp [go_sem]) (by simp [go_sem])).mono ?_
    rintro e w' ⟨rfl, h1, h2, h3, h4, h5, h6, h7, h8, g, c, h9, h10, h11⟩
    rw [hsz] at h2 h9
    have hb5 := h5 (w.heap.size + 5) (Nat.le_refl _) (by rw [hsz]; omega)
    exact ⟨rfl, h1, by omega, h3, h4, h6, h7, h8, (World.cell?_of_block (a := ⟨w.heap.size + 5, 0, none⟩) hb5).trans hc5, (World.frozen?_of_block (a := ⟨w.heap.size + 5, 0, none⟩) hb5).trans hf5, g, c, h9, h10, h11⟩
  · rintro w' ⟨_, _, _, _, _, _, _, hc, hf, _⟩
    simpa using ⟨hc, hf⟩
  rintro e w2 ⟨rfl, w1, ⟨hb, hs1, h2, h3, k2, k3, k4, _, _, g, c, hg6, h4, hl⟩, hgr⟩
  have e5 : (((((w.alloc (Obj.cells #[Value.slice a la.length cap] 22)).alloc (Obj.cells #[Value.slice a' lb.length cap'] 22)).alloc (Obj.cells #[Value.bool false] 4)).alloc (Obj.cells #[Value.bool false] 4)).alloc (Obj.cells #[Value.slice none 0 0] 22)).heap.size = w.heap.size + 5 := by simp
  rw [e5] at hgr
  have f2 := (hgr.cell_far ⟨w.heap.size + 2, 0, none⟩ (show w.heap.size + 2 < _ by omega) (by simp)).trans h2
  have f3 := (hgr.cell_far ⟨w.heap.size + 3, 0, none⟩ (show w.heap.size + 3 < _ by omega) (by simp)).trans h3
  have f4 := (hgr.cell_far ⟨w.heap.size + 4, 0, none⟩ (show w.heap.size + 4 < _ by omega) (by simp)).trans h4
  have k2' := (hgr.frozen_far ⟨w.heap.size + 2, 0, none⟩ (show w.heap.size + 2 < _ by omega) (by simp)).trans k2
  have k3' := (hgr.frozen_far ⟨w.heap.size + 3, 0, none⟩ (show w.heap.size + 3 < _ by omega) (by simp)).trans k3
  have k4' := (hgr.frozen_far ⟨w.heap.size + 4, 0, none⟩ (show w.heap.size + 4 < _ by omega) (by simp)).trans k4
  have HFF := Aside0.mk (hb.grown hgr (by omega) (fun k hk => by cases hk; omega))
  have HLW := Aside0.mk (hl.kept hgr (by intro e; have := Option.some.inj e; omega))
  have s2 := drewN_setCell_id _ _ _ _ f2
  have s3 := drewN_setCell_id _ _ _ _ f3
  have s4 := drewN_setCell_id _ _ _ _ f4
  clear hb hs1 h2 h3 h4 k2 k3 k4 hl hgr hg6 e5
  go_wp2
  go_quiet (fail)
  go_wp2
  refine bodyPost_ret (v := .tuple #[.bool (sameB la lb), .bool (befB la lb), .slice (some ⟨g, 0, none⟩) (mrgS la lb).length c]) (by simp [results, Tryz.results26, go_sem, f2, f3, f4]) rfl ⟨g, c, rfl, HLW.out, below_drewN HFF.out _⟩
end Go.Proofs.YtobbfenkdnaanaaGreatDoor
