/- impl.FingerSets, by contract. -/
import Derived.Test.YtobbfenkdnaanaaGreatDoorFpC
import Derived.Test.YtobbfenkdnaanaaGreatDoorSetE
import Derived.Deep.AppendLies
set_option linter.unusedVariables false
set_option linter.unusedSimpArgs false
namespace Go.Proofs.YtobbfenkdnaanaaGreatDoor
open Go.RowKit Go.Maps Go.WideMaps Go.Sort

theorem infoU : (Tryz.prog.info? 25).map (fun i => (i.zero, i.size, i.bytes)) = some (some (.int .u64 0), 1, 8) := by kernel_rfl

theorem cell_one_new (w : World) (v : Value) (T : TypeId) : ∀ j (u : Value), [v][j]? = some u → (w.alloc (.cells #[v] T)).cell? ((⟨w.heap.size, 0, none⟩ : Addr).add j) = some u := by
  intro j u h
  rcases j with _ | j
  · cases h
    simp [go_sem]
  · simp at h

/-- The blocks behind the four boxes are as they were. -/
def Far4 (n : Nat) (W w' : World) : Prop := ∀ k, n + 4 ≤ k → k < W.heap.size → w'.heap[k]? = W.heap[k]?

/-- What the boxes hold behind the first store. -/
structure Boxes (n : Nat) (w W w' : World) (b : Bool) (v : Value) : Prop where
  below : Below n w w'
  size : W.heap.size ≤ w'.heap.size
  far : Far4 n W w'
  c2 : w'.cell? ⟨n + 2, 0, none⟩ = some (.bool b)
  c3 : w'.cell? ⟨n + 3, 0, none⟩ = some v
  f2 : w'.frozen? ⟨n + 2, 0, none⟩ = false
  f3 : w'.frozen? ⟨n + 3, 0, none⟩ = false

theorem Boxes.grown {n : Nat} {w W w1 w2 : World} {b : Bool} {v : Value} {row : Option Nat} (h : Boxes n w W w1 b v) (hn : n + 4 ≤ W.heap.size) (hw : w.heap.size = n) (hg : w1.grownBy w2 row) (hr : ∀ k, row = some k → W.heap.size ≤ k) : Boxes n w W w2 b v := by
  have hs := h.size
  have ne : ∀ k, k < W.heap.size → some k ≠ row := fun k hk e => by have := hr k e.symm; omega
  exact ⟨by subst hw; exact h.below.grown hg h.below.size (fun k hk => by have := hr k hk; omega), Nat.le_trans hs hg.size, fun k h1 h2 => (hg.block k (by omega) (ne k h2)).trans (h.far k h1 h2),
    (hg.cell_far ⟨n + 2, 0, none⟩ (by show n + 2 < _; omega) (ne (n + 2) (by omega))).trans h.c2, (hg.cell_far ⟨n + 3, 0, none⟩ (by show n + 3 < _; omega) (ne (n + 3) (by omega))).trans h.c3,
    (hg.frozen_far ⟨n + 2, 0, none⟩ (by show n + 2 < _; omega) (ne (n + 2) (by omega))).trans h.f2, (hg.frozen_far ⟨n + 3, 0, none⟩ (by show n + 3 < _; omega) (ne (n + 3) (by omega))).trans h.f3⟩
theorem Boxes.next {n : Nat} {w W w1 w2 : World} {b : Bool} {v : Value} (h : Boxes n w W w1 b v) (hn : n + 4 ≤ W.heap.size) (hw : w.heap.size = n) (hb : Below w1.heap.size w1 w2) : Boxes n w W w2 b v := by
  have hs := h.size
  exact ⟨by subst hw; exact below_step h.below hb, Nat.le_trans hs hb.size, fun k h1 h2 => (hb.block k (by omega)).trans (h.far k h1 h2),
    (hb.cell (p := ⟨n + 2, 0, none⟩) (by show n + 2 < _; omega)).trans h.c2, (hb.cell (p := ⟨n + 3, 0, none⟩) (by show n + 3 < _; omega)).trans h.c3,
    (hb.frozen (p := ⟨n + 2, 0, none⟩) (by show n + 2 < _; omega)).trans h.f2, (hb.frozen (p := ⟨n + 3, 0, none⟩) (by show n + 3 < _; omega)).trans h.f3⟩
theorem Boxes.store {n : Nat} {w W w1 : World} {b : Bool} {v : Value} (h : Boxes n w W w1 b v) (hn : n + 4 ≤ W.heap.size) (hw : w.heap.size = n) (u : Value) : Boxes n w W (w1.setCell ⟨n + 3, 0, none⟩ u) b u := by
  have hs := h.size
  refine ⟨h.below.setCell (p := ⟨n + 3, 0, none⟩) (by show n ≤ n + 3; omega) u, by simp [World.setCell]; exact hs, fun k h1 h2 => ?_, ?_, World.cell?_setCell_same _ _ _ h.c3, by rw [World.frozen?_setCell]; exact h.f2, by rw [World.frozen?_setCell]; exact h.f3⟩
  · exact ((grownBy_setCell w1 ⟨n + 3, 0, none⟩ u).block k (by omega) (by intro e; have := Option.some.inj e; simp at this; omega)).trans (h.far k h1 h2)
  · rw [World.cell?_setCell_other _ _ _ _ (by simp)]; exact h.c2

theorem Boxes.first {n : Nat} {w W w3 : World} (hw : Below n w W) (h3 : Below W.heap.size W w3) (hn : n + 4 ≤ W.heap.size) (b : Bool) {u v : Value}
    (c2 : W.cell? ⟨n + 2, 0, none⟩ = some u) (c3 : W.cell? ⟨n + 3, 0, none⟩ = some v) (f2 : W.frozen? ⟨n + 2, 0, none⟩ = false) (f3 : W.frozen? ⟨n + 3, 0, none⟩ = false) (hwn : w.heap.size = n) : Boxes n w W (w3.setCell ⟨n + 2, 0, none⟩ (.bool b)) b v := by
  have d2 := (h3.cell (p := ⟨n + 2, 0, none⟩) (by show n + 2 < _; omega)).trans c2
  have hb : Below n w w3 := by subst hwn; exact below_step hw h3
  refine ⟨hb.setCell (p := ⟨n + 2, 0, none⟩) (by show n ≤ n + 2; omega) _, by simp [World.setCell]; exact h3.size, fun k h1 h2 => ?_, World.cell?_setCell_same _ _ _ d2, ?_, ?_, ?_⟩
  · exact ((grownBy_setCell w3 ⟨n + 2, 0, none⟩ _).block k (by have := h3.size; omega) (by intro e; have := Option.some.inj e; simp at this; omega)).trans (h3.block k h2)
  · rw [World.cell?_setCell_other _ _ _ _ (by simp)]; exact (h3.cell (p := ⟨n + 3, 0, none⟩) (by show n + 3 < _; omega)).trans c3
  · rw [World.frozen?_setCell]; exact (h3.frozen (p := ⟨n + 2, 0, none⟩) (by show n + 2 < _; omega)).trans f2
  · rw [World.frozen?_setCell]; exact (h3.frozen (p := ⟨n + 3, 0, none⟩) (by show n + 3 < _; omega)).trans f3
theorem RowU.ne_set {w : World} {base b n : Nat} {v : Value} {l l' : List Int} (h : RowU w base v l) (hm : SetIs w b n l') : some b ≠ v.ownBlock := by
  obtain ⟨D, ⟨es, clock, hb, _⟩, _⟩ := hm
  intro e
  rcases h.2 with ⟨rfl, _⟩ | ⟨g, cap, cur, rfl, _, hg, _⟩
  · cases e
  · have : b = g := by simpa [Value.ownBlock] using e
    subst this
    rw [hb] at hg
    cases hg
theorem RowU.form {w : World} {base : Nat} {v : Value} {l : List Int} (h : RowU w base v l) (hn : v ≠ .slice none 0 0) : ∃ g c, v = .slice (some ⟨g, 0, none⟩) l.length c ∧ base ≤ g ∧ g < w.heap.size := by
  rcases h.2 with ⟨h0, _⟩ | ⟨g, cap, cur, hv, hb, hg, _⟩
  · exact absurd h0 hn
  · exact ⟨g, cap, hv, hb, (Array.getElem?_eq_some_iff.1 hg).1⟩
theorem RowU.nil {w : World} {base : Nat} {l : List Int} (h : RowU w base (.slice none 0 0) l) : l = [] := by
  rcases h.2 with ⟨_, h0⟩ | ⟨g, cap, cur, hv, _⟩
  · simpa using h0
  · cases hv
theorem RowU.ne_iter {w : World} {base : Nat} {v : Value} {l' : List Int} {b r n : Nat} {l d : List Int} {cnt : Nat} (h : RowU w base v l') (hr : RangeU w b r n l d cnt) : some r ≠ v.ownBlock := by
  obtain ⟨D, left, hrg, _⟩ := hr
  exact row_ne_iter h hrg

/-- What the call inside safe leaves. -/
def FsQ (w W : World) (la lb : List Int) (w' : World) : Prop :=
  ∃ v ds, Boxes w.heap.size w W w' (eqU (mkU la) (mkU lb)) v ∧ RowU w' W.heap.size v ds ∧ ds.Pairwise (· < ·) ∧ ∀ x, x ∈ ds ↔ x ∈ la ∧ x ∈ lb

set_option maxHeartbeats 4000000 in
set_option maxRecDepth 100000 in
theorem fs1_calls (a a' : Option Addr) (cap cap' : Nat) (la lb : List Int) (w W : World) (hw : Below w.heap.size w W) (hn : w.heap.size + 4 ≤ W.heap.size) (hla : Nums w a la) (hlb : Nums w a' lb)
    (ha20 : la.length ≤ 20) (hb20 : lb.length ≤ 20) (hwa : ∀ x ∈ la, In64 x) (hwb : ∀ x ∈ lb, In64 x)
    (c0 : W.cell? ⟨w.heap.size, 0, none⟩ = some (.slice a la.length cap)) (c1 : W.cell? ⟨w.heap.size + 1, 0, none⟩ = some (.slice a' lb.length cap'))
    (c2 : W.cell? ⟨w.heap.size + 2, 0, none⟩ = some (.bool false)) (c3 : W.cell? ⟨w.heap.size + 3, 0, none⟩ = some (.slice none 0 0))
    (f2 : W.frozen? ⟨w.heap.size + 2, 0, none⟩ = false) (f3 : W.frozen? ⟨w.heap.size + 3, 0, none⟩ = false) :
    Calls Tryz.prog 70 #[.pointer (some ⟨w.heap.size, 0, none⟩), .pointer (some ⟨w.heap.size + 1, 0, none⟩), .pointer (some ⟨w.heap.size + 2, 0, none⟩), .pointer (some ⟨w.heap.size + 3, 0, none⟩)] W fun e w' =>
      e = .returned (.tuple #[]) ∧ FsQ w W la lb w' := by
  obtain ⟨n, hnn⟩ : ∃ n, w.heap.size = n := ⟨_, rfl⟩
  have HW := Aside0.mk hw
  have HLA := Aside0.mk (hla.next hw)
  have HLB := Aside0.mk (hlb.next hw)
  have HNN := Aside0.mk hnn
  have HQ := Aside0.mk (show ∀ w', FsQ w W la lb w' → FsQ w W la lb w' from fun _ h => h)
  rw [hnn] at hn c0 c1 c2 c3 f2 f3 ⊢
  have HC := Aside0.mk (And.intro c1 (And.intro c2 (And.intro c3 (And.intro f2 f3))))
  have HN := Aside0.mk hn
  have HWI := Aside0.mk (And.intro hwa hwb)
  have hmm := @run_makeMap Tryz.prog
  obtain ⟨i0, hi, hz0, hz1, hz2⟩ := info_parts infoU
  have HI := Aside0.mk (And.intro hi (And.intro hz0 (And.intro hz1 hz2)))
  have HB0 := Aside0.mk (below_alloc (below_alloc (Below.refl W.heap.size W) (Obj.map #[] 0)) (Obj.map #[] 0))
  have d0 : ((W.alloc (Obj.map #[] 0)).alloc (Obj.map #[] 0)).cell? ⟨n, 0, none⟩ = some (.slice a la.length cap) := (HB0.out.cell (p := ⟨n, 0, none⟩) (by show n < _; omega)).trans c0
  have HS1 := Aside0.mk ((SetIs.made W).alloc (Obj.map #[] 0))
  have HS2 := Aside0.mk (show SetIs ((W.alloc (Obj.map #[] 0)).alloc (Obj.map #[] 0)) (W.heap.size + 1) 0 [] from by have h := SetIs.made (W.alloc (Obj.map #[] 0)); rwa [show (W.alloc (Obj.map #[] 0)).heap.size = W.heap.size + 1 by simp] at h)
  clear hw hla hlb hnn hn c0 c1 c2 c3 f2 f3 hwa hwb hi hz0 hz1 hz2
  go_enter Tryz.func70, Tryz.ntmps70
  go_wp2_with fail
  go_loopg [7, 15] (la.length + 1) (fun g v7 v15 w' => ∃ i : Nat, v15 = .int .i64 (i : Int) ∧ i + g = la.length + 1 ∧ i ≤ la.length ∧ Aside0 (SetIs w' W.heap.size i (mkU (la.take i))) ∧ Aside0 (SetIs w' (W.heap.size + 1) 0 []) ∧ Aside0 (Below W.heap.size W w'))
  case atStart => exact ⟨0, rfl, by omega, by omega, HS1, HS2, HB0⟩
  case round =>
    obtain ⟨i, rfl, hig, hile, HM, HM2, HB⟩ := hrel
    have HBW := Aside0.mk (show Below w.heap.size w wr from by have h := below_step HW.out HB.out; exact h)
    by_cases hlt : i < la.length
    · obtain ⟨g1, rfl⟩ : ∃ m, gk = m + 1 := ⟨gk - 1, by omega⟩
      rcases HLA.out.next HB.out with h | ⟨b, off, ha, hblt, hc⟩
      · rw [h] at hlt; simp at hlt
      subst ha
      have c0 := hc i hlt
      obtain ⟨x, hx⟩ : ∃ x, la[i]'hlt = x := ⟨_, rfl⟩
      rw [hx] at c0
      have HX := Aside0.mk (show In64 x from by rw [← hx]; exact HWI.out.1 _ (List.getElem_mem hlt))
      have HTK := Aside0.mk (show mkU (la.take (i + 1)) = insU (mkU (la.take i)) x from by rw [mkU_take hlt, hx])
      have HMX := Aside0.mk (show i < maxLen by unfold maxLen; omega)
      clear hc hx hblt
      go_wp2_with (at_mapUpdate; refine wpList_store_num _ rfl _ _ _ rfl W.heap.size i _ rfl HM.out HMX.out x rfl rfl HX.out ?_; intro w2 hm2 hg2; have HA2 := Aside0.mk hm2; have HG2 := Aside0.mk hg2; clear hm2 hg2)
      go_roundg g1
      case measure => omega
      case rel => exact ⟨i + 1, by go_num, by omega, by omega, ⟨by rw [HTK.out]; exact HA2.out⟩, ⟨HM2.out.kept HG2.out (by simp)⟩, ⟨HB.out.grown HG2.out HB.out.size (fun k hk => by cases hk; exact Nat.le_refl _)⟩⟩
    · have HI2 := Aside0.mk (show i = la.length by omega)
      clear hig hile
      have HMA := Aside0.mk (show SetIs wr W.heap.size la.length (mkU la) from by have h := HM.out; rw [HI2.out, List.take_length] at h; exact h)
      have d1 : wr.cell? ⟨n + 1, 0, none⟩ = some (.slice a' lb.length cap') := (HB.out.cell (p := ⟨n + 1, 0, none⟩) (by have := HN.out; show n + 1 < _; omega)).trans HC.out.1
      have HM20 := HM2
      go_wp2_with fail
      go_loopg [9, 25] (lb.length + 1) (fun g v9 v25 w' => ∃ i : Nat, v25 = .int .i64 (i : Int) ∧ i + g = lb.length + 1 ∧ i ≤ lb.length ∧ Aside0 (SetIs w' W.heap.size la.length (mkU la)) ∧ Aside0 (SetIs w' (W.heap.size + 1) i (mkU (lb.take i))) ∧ Aside0 (Below W.heap.size W w'))
      case atStart => exact ⟨0, rfl, by omega, by omega, HMA, HM20, HB⟩
      case round =>
        obtain ⟨j, rfl, hjg, hjle, HMA, HMB, HB⟩ := hrel
        by_cases hlt : j < lb.length
        · obtain ⟨g1, rfl⟩ : ∃ m, gk = m + 1 := ⟨gk - 1, by omega⟩
          rcases HLB.out.next HB.out with h | ⟨b, off, ha, hblt, hc⟩
          · rw [h] at hlt; simp at hlt
          subst ha
          have c0 := hc j hlt
          obtain ⟨x, hx⟩ : ∃ x, lb[j]'hlt = x := ⟨_, rfl⟩
          rw [hx] at c0
          have HX := Aside0.mk (show In64 x from by rw [← hx]; exact HWI.out.2 _ (List.getElem_mem hlt))
          have HTK := Aside0.mk (show mkU (lb.take (j + 1)) = insU (mkU (lb.take j)) x from by rw [mkU_take hlt, hx])
          have HMX := Aside0.mk (show j < maxLen by unfold maxLen; omega)
          clear hc hx hblt
          go_wp2_with (at_mapUpdate; refine wpList_store_num _ rfl _ _ _ rfl (W.heap.size + 1) j _ rfl HMB.out HMX.out x rfl rfl HX.out ?_; intro w2 hm2 hg2; have HA2 := Aside0.mk hm2; have HG2 := Aside0.mk hg2; clear hm2 hg2)
          go_roundg g1
          case measure => omega
          case rel => exact ⟨j + 1, by go_num, by omega, by omega, ⟨HMA.out.kept HG2.out (by simp)⟩, ⟨by rw [HTK.out]; exact HA2.out⟩, ⟨HB.out.grown HG2.out HB.out.size (fun k hk => by cases hk; omega)⟩⟩
        · have HJ2 := Aside0.mk (show j = lb.length by omega)
          clear hjg hjle
          have HMB2 := Aside0.mk (show SetIs wr (W.heap.size + 1) lb.length (mkU lb) from by have h := HMB.out; rw [HJ2.out, List.take_length] at h; exact h)
          have hla1 := mkU_len la
          have hlb1 := mkU_len lb
          have HLL := Aside0.mk (And.intro hla1 hlb1)
          clear hla1 hlb1
          go_wp2_with fail
          refine (equalU_calls W.heap.size (W.heap.size + 1) la.length lb.length (mkU la) (mkU lb) _ HMA.out HMB2.out (by have := HLL.out.1; omega) (by have := HLL.out.2; omega)).mono ?_
          rintro e w3 ⟨rfl, hb3⟩
          have HB3 := Aside0.mk (below_step HB.out hb3)
          have HA3 := Aside0.mk (HMA.out.next hb3)
          have HM3 := Aside0.mk (HMB2.out.next hb3)
          clear hb3
          have k2 := (HB3.out.cell (p := ⟨n + 2, 0, none⟩) (by have := HN.out; show n + 2 < _; omega)).trans HC.out.2.1
          have l2 := (HB3.out.frozen (p := ⟨n + 2, 0, none⟩) (by have := HN.out; show n + 2 < _; omega)).trans HC.out.2.2.2.1
          have HBX := Aside0.mk (Boxes.first (b := eqU (mkU la) (mkU lb)) (by have h := HW.out; rw [HNN.out] at h; exact h) HB3.out HN.out HC.out.2.1 HC.out.2.2.1 HC.out.2.2.2.1 HC.out.2.2.2.2 HNN.out)
          have HA4 := Aside0.mk (HA3.out.kept (grownBy_setCell w3 ⟨n + 2, 0, none⟩ (.bool (eqU (mkU la) (mkU lb)))) (by have := HN.out; intro e; have := Option.some.inj e; simp at this; omega))
          have HM4 := Aside0.mk (HM3.out.kept (grownBy_setCell w3 ⟨n + 2, 0, none⟩ (.bool (eqU (mkU la) (mkU lb)))) (by have := HN.out; intro e; have := Option.some.inj e; simp at this; omega))
          clear hlt
          go_wp2_with fail
          refine (interU_calls W.heap.size (W.heap.size + 1) la.length lb.length (mkU la) (mkU lb) _ HA4.out HM4.out (by have := HLL.out.1; omega) (by have := HLL.out.2; omega)).mono ?_
          rintro e w4 ⟨b4, n4, d4, rfl, hle4, hm4, hn4, hi4, hlen4, h20, hb4⟩
          have HB4 := Aside0.mk (HBX.out.next HN.out HNN.out hb4)
          have HI4 := Aside0.mk (And.intro hi4 (h20 (by have := HLL.out.1; omega) (by have := HLL.out.2; omega)))
          have HM5 := Aside0.mk hm4
          have HL4 := Aside0.mk (show W.heap.size ≤ b4 by have := HBX.out.size; omega)
          have HN4 := Aside0.mk hn4
          clear hle4 hm4 hn4 hi4 hlen4 h20 hb4 k2 l2
          go_wp2_with (at_range; refine wpList_range_num _ rfl _ rfl b4 n4 d4 rfl HM5.out ?_; intro w5 hrg5 hg5 hs5; have HRG := Aside0.mk hrg5; have HB5 := Aside0.mk (HB4.out.grown HN.out HNN.out hg5 (fun k hk => by cases hk)); clear hrg5 hg5 hs5)
          (try go_frame)
          have HR4 := Aside0.mk (show W.heap.size ≤ w4.heap.size from HB4.out.size)
          have HO5 := Aside0.mk (show RowU w5 W.heap.size (.slice none 0 0) [] from ⟨rfl, .inl ⟨rfl, rfl⟩⟩)
          go_loopg [10] d4.length (fun g v10 w' => ∃ (d : List Int) (v : Value), Aside0 (RangeU w' b4 w4.heap.size n4 d4 d g) ∧ Aside0 (Boxes n w W w' (eqU (mkU la) (mkU lb)) v) ∧ Aside0 (RowU w' W.heap.size v d))
          case atStart => exact ⟨[], _, HRG, HB5, HO5⟩
          case round =>
            obtain ⟨d, v, HR, HBO, HRO⟩ := hrel
            go_wp2_with (at_next; refine wpList_next_num _ rfl _ rfl b4 w4.heap.size n4 d4 d gk rfl HR.out ?_ ?_)
            · intro hall
              have HALL := Aside0.mk hall
              clear hall
              by_cases hv : v = .slice none 0 0
              · subst hv
                have hd := HRO.out.nil
                have HD := Aside0.mk hd
                have k3 := HBO.out.c3
                clear hd
                go_wp2_with (go_at_call 73; refine (sort_none _).mono ?_; rintro e w6 ⟨rfl, rfl⟩)
                go_end0
                refine ⟨rfl, HQ.out _ ⟨_, [], by rw [HNN.out]; exact HBO.out, by have h := HRO.out; rw [HD.out] at h; exact h, List.Pairwise.nil, fun x => ?_⟩⟩
                have h1 := HALL.out x
                rw [HD.out, HI4.out.1.2 x, mkU_mem, mkU_mem] at h1
                exact h1
              · obtain ⟨g, c, hvv, hbs, hgl⟩ := HRO.out.form hv
                subst hvv
                have k3 := HBO.out.c3
                have hH := rowU_holds HRO.out
                have hcn := HR.out.count
                have hso := sort_u g 0 c d.toArray wr hH.1 hH.2.1 (by have := HI4.out.2; simp; omega) (nod_of HR.out.once)
                have HSO := Aside0.mk hso
                have HBS := Aside0.mk (And.intro hbs hgl)
                clear hso hH hcn hbs hgl hv
                go_wp2_with (go_at_call 73; refine HSO.out.mono ?_; rintro e w6 ⟨rfl, d', hp6, hs6, hg6⟩)
                go_end0
                have hdz : d'.size = d.length := by rw [hp6.1]; simp
                obtain ⟨r1, r2⟩ := rowU_sorted HRO.out hg6 hdz
                have hdl : d'.toList.length = d.length := by rw [← hdz]; exact Array.length_toList
                refine ⟨rfl, HQ.out _ ⟨_, d'.toList, by rw [HNN.out]; exact HBO.out.grown HN.out HNN.out r2 (fun k hk => by cases hk; exact HBS.out.1), r1, ?_, fun x => ?_⟩⟩
                · have hn1 := nod_perm (Nat.le_refl _) hp6 (nod_of HR.out.once)
                  have hz : d.toArray.size = d'.size := hp6.1.symm
                  rw [hz] at hn1 hs6
                  exact sortedIn_asc hn1 hs6
                · rw [mem_permIn hp6 x, show d.toArray.toList = d from rfl]
                  have h1 := HALL.out x
                  rw [HI4.out.1.2 x, mkU_mem, mkU_mem] at h1
                  exact h1
            · intro x w9 cnt1 hlx hdx hxl hrg1 hlt1 hg1 hs1 hen
              have HX := Aside0.mk (And.intro hlx (And.intro hdx hxl))
              have hcnt := HR.out.count
              have HB9 := Aside0.mk (HBO.out.grown HN.out HNN.out hg1 (fun k hk => by cases hk; exact HR4.out))
              have HR9 := Aside0.mk (show RowU w9 W.heap.size v d from World.ownsRow.kept HRO.out hg1 (Or.inr (HRO.out.ne_iter HR.out).symm))
              have HRG1 := Aside0.mk hrg1
              have HDL := Aside0.mk (show d.length ≤ 20 by have := HI4.out.2; omega)
              have k3 := HB9.out.c3
              have HS9 := Aside0.mk HB9.out.size
              have HNE := Aside0.mk (show some (n + 3) ≠ v.ownBlock from fun e => by have h1 := (World.ownsRow.lt HR9.out _ e.symm).1; have h2 := HN.out; omega)
              have HA9 := Aside0.mk (HB9.out.next HN.out HNN.out (below_alloc (Below.refl w9.heap.size w9) (Obj.cells #[Value.int .u64 x] 25)))
              clear hlx hdx hxl hrg1 hg1 hs1 hcnt
              go_wp2_with (at_builtin; refine wpList_append_own _ rfl _ _ 39 rfl W.heap.size 25 i0 (.int .u64 0) 1 8 Tryz.underlying39 HI.out.1 HI.out.2.1 HI.out.2.2.1 HI.out.2.2.2 rfl (by decide) _ _ _ rfl (World.ownsRow.alloc HR9.out _) ⟨w9.heap.size, 0, none⟩ 1 1 [.int .u64 x] rfl rfl (cell_one_new _ _ _) (by simp [Value.oneCell']) (by have := HDL.out; unfold maxLen; omega) (by have := HDL.out; omega) (by have := HS9.out; simp; omega) ?_; intro v' w10 hown' hg10 hnil10; have HBX10 := Aside0.mk (HA9.out.grown HN.out HNN.out hg10 (fun k hk => (World.ownsRow.lt HR9.out k hk).1)); have f10 := HBX10.out.f3; have c10 := HBX10.out.c3; have hrow : RowU w10 W.heap.size v' (d ++ [x]) := (by unfold RowU; rw [List.length_append, List.map_append]; exact hown'); obtain ⟨g', c', hvv, hbs', hgl'⟩ := hrow.form (fun e => by have := (hnil10.1 e).2; omega); subst hvv; have HX10 := Aside0.mk (And.intro hrow hg10); clear hown' hg10 hnil10 hrow hbs' hgl')
              (try go_frame)
              go_roundg cnt1
              case measure => exact hlt1
              case rel =>
                obtain ⟨hrow, hg10⟩ := HX10.out
                refine ⟨d ++ [x], _, ⟨((HRG1.out.alloc _).kept hg10 (HR9.out.ne_set HRG1.out.set) (HR9.out.ne_iter HRG1.out)).kept (grownBy_setCell w10 ⟨n + 3, 0, none⟩ _) (fun e => by have := Option.some.inj e; have h1 := HL4.out; have h2 := HN.out; simp at this; omega) (fun e => by have := Option.some.inj e; have h1 := HR4.out; have h2 := HN.out; simp at this; omega)⟩, ⟨HBX10.out.store HN.out HNN.out _⟩, ⟨?_⟩⟩
                have hrow2 : RowU w10 W.heap.size (.slice (some ⟨g', 0, none⟩) (d.length + 1) c') (d ++ [x]) := by simpa only [List.length_append, List.length_singleton] using hrow
                exact World.ownsRow.kept hrow2 (grownBy_setCell w10 ⟨n + 3, 0, none⟩ _) (Or.inr fun e => by have h1 := (World.ownsRow.lt hrow _ e).1; have h2 := HN.out; simp at h1; omega)
end Go.Proofs.YtobbfenkdnaanaaGreatDoor
