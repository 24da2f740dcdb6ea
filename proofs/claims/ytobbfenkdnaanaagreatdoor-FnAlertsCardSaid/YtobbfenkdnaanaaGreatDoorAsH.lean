/- impl.AlertsSorted, by contract: the closure. -/
import Derived.Test.YtobbfenkdnaanaaGreatDoorAsC
import Derived.Deep.RegionHeld3
import Derived.Deep.AppendLies
set_option linter.unusedVariables false
set_option linter.unusedSimpArgs false
namespace Go.Proofs.YtobbfenkdnaanaaGreatDoor
open Go.RowKit Go.Maps Go.WideMaps Go.Sort

theorem gb_below {m : Nat} {W w1 w2 : World} (h : W.grownBy w1 (some m)) (hb : Below w1.heap.size w1 w2) : W.grownBy w2 (some m) :=
  ⟨hb.os.trans h.os, hb.tape.trans h.tape, hb.output.trans h.output, Nat.le_trans h.size hb.size, fun k hk hne => (hb.block k (Nat.lt_of_lt_of_le hk h.size)).trans (h.block k hk hne)⟩
theorem gb_grown {m : Nat} {W w1 w2 : World} {row : Option Nat} (h : W.grownBy w1 (some m)) (hg : w1.grownBy w2 row) (hr : ∀ k, row = some k → W.heap.size ≤ k ∨ k = m) : W.grownBy w2 (some m) :=
  ⟨hg.os.trans h.os, hg.tape.trans h.tape, hg.output.trans h.output, Nat.le_trans h.size hg.size, fun k hk hne => (hg.block k (Nat.lt_of_lt_of_le hk h.size) (fun e => by rcases hr k e.symm with h2 | h2; omega; exact hne (by rw [h2]))).trans (h.block k hk hne)⟩

/-- An alert's four cells. -/
def cellsD : List AlD → List Value
  | [] => []
  | x :: l => .slice x.a x.la.length x.cap :: .slice x.a' x.lb.length x.cap' :: .int .i64 x.s :: .int .i64 x.e :: cellsD l
theorem cellsD_append : ∀ l l' : List AlD, cellsD (l ++ l') = cellsD l ++ cellsD l'
  | [], l' => rfl
  | p :: l, l' => by simp only [List.cons_append, cellsD, cellsD_append l l']
theorem cellsD_get : ∀ (l : List AlD) (i : Nat) (h : i < l.length), (cellsD l)[i * 4]? = some (.slice (l[i]'h).a (l[i]'h).la.length (l[i]'h).cap) ∧ (cellsD l)[i * 4 + 1]? = some (.slice (l[i]'h).a' (l[i]'h).lb.length (l[i]'h).cap') ∧ (cellsD l)[i * 4 + 2]? = some (.int .i64 (l[i]'h).s) ∧ (cellsD l)[i * 4 + 3]? = some (.int .i64 (l[i]'h).e)
  | [], i, h => by simp at h
  | p :: l, 0, h => by simp [cellsD]
  | p :: l, i + 1, h => by
    have h' : i < l.length := by simpa using h
    have := cellsD_get l i h'
    rw [show (i + 1) * 4 = i * 4 + 1 + 1 + 1 + 1 by omega]
    simp only [cellsD, List.getElem?_cons_succ, List.getElem_cons_succ]
    exact this
/-- The call's own row of alerts. -/
def RowD (w : World) (base : Nat) (v : Value) (ys : List AlD) : Prop := w.ownsRow base 31 4 v ys.length (cellsD ys)
theorem info31 : (Tryz.prog.info? 31).map (fun i => (i.zero, i.size, i.bytes)) = some (some (.agg #[.slice none 0 0, .slice none 0 0, .int .i64 0, .int .i64 0]), 4, 64) := by kernel_rfl
/-- What an alert tells. -/
def keyD (x : AlD) : LL × Int × Int := (x.la, x.s, x.e)
/-- Its labels lie among the call's own blocks. -/
def OwnD (w : World) (base : Nat) (ys : List AlD) : Prop := ∀ y ∈ ys, y.lb = [] ∧ Labs w y.a y.la ∧ ∃ g, y.a = some ⟨g, 0, none⟩ ∧ base ≤ g
theorem OwnD.next {w w' : World} {base : Nat} {ys : List AlD} (h : OwnD w base ys) (hb : Below w.heap.size w w') : OwnD w' base ys := fun y hy => by
  obtain ⟨h1, h2, h3⟩ := h y hy
  exact ⟨h1, h2.next hb, h3⟩

theorem own_next {w w' : World} {base : Nat} {e : TypeId} {k : Nat} {v : Value} {m : Nat} {xs : List Value} (h : w.ownsRow base e k v m xs) (hb : Below w.heap.size w w') : w'.ownsRow base e k v m xs := by
  obtain ⟨h1, h2⟩ := h
  refine ⟨h1, h2.imp id ?_⟩
  rintro ⟨g, cap, cur, hv, hbase, hg, h3, h4, h5, h6⟩
  exact ⟨g, cap, cur, hv, hbase, (hb.block g (Array.getElem?_eq_some_iff.1 hg).1).trans hg, h3, h4, h5, h6⟩
theorem own_mono {w : World} {base base' : Nat} {e : TypeId} {k : Nat} {v : Value} {m : Nat} {xs : List Value} (h : w.ownsRow base e k v m xs) (hb : base' ≤ base) : w.ownsRow base' e k v m xs := by
  obtain ⟨h1, h2⟩ := h
  refine ⟨h1, h2.imp id ?_⟩
  rintro ⟨g, cap, cur, hv, hbase, hg⟩
  exact ⟨g, cap, cur, hv, Nat.le_trans hb hbase, hg⟩
theorem map_ne_cell {w : World} {b n m : Nat} {l : LL} {x : Value} (h : MapIs w b n l) (hc : w.cell? ⟨m, 0, none⟩ = some x) : some b ≠ some m := by
  obtain ⟨D, ⟨es, clock, hh, _⟩, _⟩ := h
  intro e
  have e' : b = m := Option.some.inj e
  subst e'
  unfold World.cell? at hc
  simp [hh] at hc
theorem RowD.first {w : World} {base : Nat} {v : Value} {ys : List AlD} (h : RowD w base v ys) (hp : 0 < ys.length) : ∃ g x n c, v.ownBlock = some g ∧ w.cell? ⟨g, 0, none⟩ = some (.slice x n c) := by
  rcases h.2 with ⟨hnil, hz⟩ | ⟨g, cap, cur, hv, _⟩
  · omega
  · subst hv
    have h' : w.ownsRow base 31 4 (.slice (some ⟨g, 0, none⟩) ys.length cap) ys.length (cellsD ys) := h
    have := (cellsD_get ys 0 hp).1
    exact ⟨g, _, _, _, rfl, (h'.cellAt 0 (by omega)).trans (by simpa using this)⟩
theorem Labs.or_ne {w : World} {g : Nat} {l : LL} {v : Value} (h : Labs w (some ⟨g, 0, none⟩) l) (hf : ∃ g x n c, v.ownBlock = some g ∧ w.cell? ⟨g, 0, none⟩ = some (.slice x n c)) : l = [] ∨ some g ≠ v.ownBlock := by
  rcases h with h | ⟨b, off, ha, hlt, hc⟩
  · exact .inl h
  · cases ha
    rcases l with _ | ⟨x, tl⟩
    · exact .inl rfl
    · right
      obtain ⟨g', y, n, c, h1, h2⟩ := hf
      rw [h1]
      intro e
      have e' : g = g' := Option.some.inj e
      subst e'
      have := (hc 0 (by simp)).1
      simp at this
      rw [this] at h2
      cases h2
theorem AlsAt.far {w w' : World} {P : List (Nat × AlD)} {row : Option Nat} (h : AlsAt w P) (hg : w.grownBy w' row) (h1 : ∀ p ∈ P, some p.1 ≠ row) (h2 : ∀ b n l, MapIs w b n l → some b ≠ row) : AlsAt w' P := fun p hp => by
  obtain ⟨b1, b2, a0, a1, a2⟩ := h p hp
  exact ⟨b1, b2, a0.kept hg (h1 p hp), a1.kept hg (h2 _ _ _ a1), a2.kept hg (h2 _ _ _ a2)⟩

set_option maxHeartbeats 4000000 in
set_option maxRecDepth 100000 in
theorem as1_calls (a : Option Addr) (cap : Nat) (xs : List AlD) (n : Nat) (W : World) (hn : n + 2 ≤ W.heap.size) (hx : AlsIn W a xs) (hg : ∀ x ∈ xs, Good x) (h8 : xs.length ≤ 8)
    (c0 : W.cell? ⟨n, 0, none⟩ = some (.slice a xs.length cap)) (c1 : W.cell? ⟨n + 1, 0, none⟩ = some (.slice none 0 0)) (f1 : W.frozen? ⟨n + 1, 0, none⟩ = false) :
    Calls Tryz.prog 83 #[.pointer (some ⟨n, 0, none⟩), .pointer (some ⟨n + 1, 0, none⟩)] W fun e w' =>
      e = .returned (.tuple #[]) ∧ ∃ (ys : List AlD) (P : List (Nat × AlD)) (u : Value), w'.cell? ⟨n + 1, 0, none⟩ = some u ∧ w'.frozen? ⟨n + 1, 0, none⟩ = false ∧ RowD w' W.heap.size u ys ∧ OwnD w' W.heap.size ys ∧ ys.map keyD = P.map (fun p => keyD p.2) ∧ (P.map Prod.snd).Perm xs ∧ (Alike P → UpTo P P.length P.length) ∧ W.grownBy w' (some (n + 1)) := by
  have HX := Aside0.mk hx
  have HG := Aside0.mk hg
  have HN := Aside0.mk hn
  have HC := Aside0.mk (And.intro c1 f1)
  obtain ⟨i0, hi, hz0, hz1, hz2⟩ := info_parts info31
  have HI := Aside0.mk (And.intro hi (And.intro hz0 (And.intro hz1 hz2)))
  clear hx hg hn c1 f1 hi hz0 hz1 hz2
  go_enter Tryz.func83, Tryz.ntmps83
  go_wp2_with fail
  refine (alerts_calls a cap xs _ HX.out HG.out h8).mono ?_
  rintro e w1 ⟨v, P, rfl, hP, hrow, hat, hpg, hb1⟩
  have hl8 : P.length ≤ 8 := by rw [← List.length_map (f := Prod.snd), hP]; exact h8
  have hsz : ∀ p ∈ P, Sized p.2.la := fun p hp => (HG.out p.2 (by rw [← hP]; exact List.mem_map.2 ⟨p, hp, rfl⟩)).1
  have HAR := Aside0.mk (arrange_calls W.heap.size v P W w1 hrow hat hsz (Nat.le_refl _) hb1 hl8)
  have HPX := Aside0.mk (And.intro hP hl8)
  have HPG0 := Aside0.mk hpg
  clear hP hrow hat hb1 hl8 hsz hpg
  go_wp2_with fail
  refine HAR.out.mono ?_
  rintro e w2 ⟨rfl, P2, hpm, hrow2, hat2, hb2, hup⟩
  have HB2 := Aside0.mk hb2
  have hlen2 : P2.length = P.length := hpm.length_eq
  have HUP := Aside0.mk (show Alike P2 → UpTo P2 P2.length P2.length from fun hal => by rw [hlen2]; exact hup (fun p hp q hq => hal p (hpm.mem_iff.2 hp) q (hpm.mem_iff.2 hq)))
  have HPM := Aside0.mk (show (P2.map Prod.snd).Perm xs by rw [← HPX.out.1]; exact hpm.map _)
  have HL2 := Aside0.mk (show P2.length ≤ 8 by rw [hlen2]; exact HPX.out.2)
  have HAT := Aside0.mk hat2
  have HPG := Aside0.mk (show ∀ p ∈ P2, W.heap.size ≤ p.1 ∧ p.1 < w2.heap.size from fun p hp => ⟨HPG0.out p (hpm.mem_iff.1 hp), by obtain ⟨_, _, h0, _⟩ := hat2 p hp; exact h0.1⟩)
  have HGD := Aside0.mk (show ∀ p ∈ P2, Good p.2 from fun p hp => HG.out p.2 (HPM.out.mem_iff.1 (List.mem_map.2 ⟨p, hp, rfl⟩)))
  obtain ⟨a2, c2, hv2, hf2⟩ := hrow2.form
  subst hv2
  have HF := Aside0.mk hf2
  have HR2 := Aside0.mk hrow2
  have d1 := (hb2.cell (p := ⟨n + 1, 0, none⟩) (by have := HN.out; show n + 1 < _; omega)).trans HC.out.1
  have d2 := (hb2.frozen (p := ⟨n + 1, 0, none⟩) (by have := HN.out; show n + 1 < _; omega)).trans HC.out.2
  have HD := Aside0.mk (And.intro d1 d2)
  clear hpm hrow2 hat2 hb2 hup hlen2 hf2 d1 d2 HAR
  go_wp2_with fail
  go_loopg [12] (P2.length + 1) (fun gg v12 w' => ∃ (i : Nat) (ys : List AlD) (u : Value), v12 = .int .i64 (i : Int) ∧ i + gg = P2.length + 1 ∧ i ≤ P2.length ∧ Aside0 (w'.cell? ⟨n + 1, 0, none⟩ = some u ∧ w'.frozen? ⟨n + 1, 0, none⟩ = false) ∧ Aside0 (RowD w' w2.heap.size u ys) ∧ Aside0 (OwnD w' w2.heap.size ys) ∧ Aside0 (ys.map keyD = (P2.take i).map (fun p => keyD p.2)) ∧ Aside0 (AlsAt w' P2) ∧ Aside0 (RowP w' W.heap.size (.slice a2 P2.length c2) P2) ∧ Aside0 (W.grownBy w' (some (n + 1))) ∧ Aside0 (w2.heap.size ≤ w'.heap.size))
  case atStart => exact ⟨0, [], _, rfl, by omega, by omega, HD, ⟨World.ownsRow_nil _ _ _ _⟩, ⟨fun y hy => by cases hy⟩, ⟨rfl⟩, HAT, HR2, ⟨HB2.out.os, HB2.out.tape, HB2.out.output, HB2.out.size, fun k hk _ => HB2.out.block k hk⟩, ⟨Nat.le_refl _⟩⟩
  case round =>
    obtain ⟨i, ys, u, rfl, hig, hile, HU, HRD, HOW, HKY, HA3, HR3, HGB, HWS⟩ := hrel
    by_cases hlt : i < P2.length
    · obtain ⟨g1, rfl⟩ : ∃ m, gk = m + 1 := ⟨gk - 1, by omega⟩
      obtain ⟨a3, c3, hv3, hf3⟩ := HR3.out.form
      obtain ⟨g, hag, hgl, hcell⟩ := hf3 i hlt
      injection hv3 with k1 k2 k3
      obtain rfl : a2 = some ⟨g, 0, none⟩ := k1.trans hag
      obtain ⟨p, hpp⟩ : ∃ p, P2[i]'hlt = p := ⟨_, rfl⟩
      rw [hpp] at hcell
      have HGLT := Aside0.mk (show W.heap.size ≤ g ∧ g < w2.heap.size from World.ownsRow.lt HR2.out g rfl)
      have HPP := Aside0.mk hpp
      have hmem : p ∈ P2 := by rw [← hpp]; exact List.getElem_mem hlt
      have HGP := Aside0.mk (HGD.out p hmem)
      have HMEM := Aside0.mk hmem
      have HPL := Aside0.mk (HPG.out p hmem).2
      obtain ⟨b1, b2, hal, hm1, hm2⟩ := HA3.out p hmem
      have HAL := Aside0.mk (And.intro hal (And.intro hm1 hm2))
      obtain ⟨a5, c5, hu5⟩ : ∃ a5 c5, u = .slice a5 ys.length c5 := by
        rcases HRD.out.2 with ⟨hnil, hz⟩ | ⟨g', cap', cur, hv, _⟩
        · exact ⟨none, 0, by rw [hnil, hz]⟩
        · exact ⟨_, _, hv⟩
      subst hu5
      have u0 := HU.out.1
      have u1 := HU.out.2
      clear hf3 hag hgl k1 k2 k3 hpp hmem hm1 hm2
      obtain ⟨hly, y0, y1, y2, y3, y4, y5⟩ := hal
      have HWR := Aside0.mk HWS.out
      have HSS := Aside0.mk (show ∀ (wa : World) (v : Value), (fun w' : World => w'.cell? ⟨p.1, 0, none⟩ = some (.map (some b1)) ∧ w'.cell? ⟨p.1, 1, none⟩ = some (.map (some b2)) ∧ w'.cell? ⟨p.1, 2, none⟩ = some (.int .i64 (momS p.2.s)) ∧ w'.cell? ⟨p.1, 3, none⟩ = some (.int .i64 0) ∧ w'.cell? ⟨p.1, 4, none⟩ = some (.int .i64 (momS p.2.e)) ∧ w'.cell? ⟨p.1, 5, none⟩ = some (.int .i64 0)) wa → (fun w' : World => w'.cell? ⟨p.1, 0, none⟩ = some (.map (some b1)) ∧ w'.cell? ⟨p.1, 1, none⟩ = some (.map (some b2)) ∧ w'.cell? ⟨p.1, 2, none⟩ = some (.int .i64 (momS p.2.s)) ∧ w'.cell? ⟨p.1, 3, none⟩ = some (.int .i64 0) ∧ w'.cell? ⟨p.1, 4, none⟩ = some (.int .i64 (momS p.2.e)) ∧ w'.cell? ⟨p.1, 5, none⟩ = some (.int .i64 0)) (wa.setCell ⟨n + 1, 0, none⟩ v) from fun wa v hs => by
        have h1 : ∀ k, (⟨n + 1, 0, none⟩ : Addr) ≠ ⟨p.1, k, none⟩ := fun k e => by have h2 := (HPG.out p HMEM.out).1; have h3 := HN.out; have h4 := congrArg Addr.block e; simp at h4; omega
        obtain ⟨a0, a1, a2, a3, a4, a5⟩ := hs
        exact ⟨(World.cell?_setCell_other _ _ _ _ (h1 0)).trans a0, (World.cell?_setCell_other _ _ _ _ (h1 1)).trans a1, (World.cell?_setCell_other _ _ _ _ (h1 2)).trans a2, (World.cell?_setCell_other _ _ _ _ (h1 3)).trans a3, (World.cell?_setCell_other _ _ _ _ (h1 4)).trans a4, (World.cell?_setCell_other _ _ _ _ (h1 5)).trans a5⟩)
      have HNE1 := Aside0.mk (show ∀ w', RowD w' w2.heap.size (.slice a5 ys.length c5) ys → some (n + 1) ≠ (Value.slice a5 ys.length c5).ownBlock from fun w' h e => by have h1 := (World.ownsRow.lt h _ e.symm).1; have h2 := HN.out; have h3 := HB2.out.size; omega)
      have HFAR := Aside0.mk (show ∀ (wa wb wc : World), (fun w' : World => w'.cell? ⟨p.1, 0, none⟩ = some (.map (some b1)) ∧ w'.cell? ⟨p.1, 1, none⟩ = some (.map (some b2)) ∧ w'.cell? ⟨p.1, 2, none⟩ = some (.int .i64 (momS p.2.s)) ∧ w'.cell? ⟨p.1, 3, none⟩ = some (.int .i64 0) ∧ w'.cell? ⟨p.1, 4, none⟩ = some (.int .i64 (momS p.2.e)) ∧ w'.cell? ⟨p.1, 5, none⟩ = some (.int .i64 0)) wa → wa.grownBy wb (Value.slice a5 ys.length c5).ownBlock → RowD wc w2.heap.size (.slice a5 ys.length c5) ys → p.1 < wa.heap.size → (fun w' : World => w'.cell? ⟨p.1, 0, none⟩ = some (.map (some b1)) ∧ w'.cell? ⟨p.1, 1, none⟩ = some (.map (some b2)) ∧ w'.cell? ⟨p.1, 2, none⟩ = some (.int .i64 (momS p.2.s)) ∧ w'.cell? ⟨p.1, 3, none⟩ = some (.int .i64 0) ∧ w'.cell? ⟨p.1, 4, none⟩ = some (.int .i64 (momS p.2.e)) ∧ w'.cell? ⟨p.1, 5, none⟩ = some (.int .i64 0)) wb from fun wa wb wc hs hg hr hlt => by
        have hne : some p.1 ≠ (Value.slice a5 ys.length c5).ownBlock := fun e => by have h1 := (World.ownsRow.lt hr _ e.symm).1; have h2 := HPL.out; omega
        obtain ⟨a0, a1, a2, a3, a4, a5⟩ := hs
        exact ⟨(hg.cell_far ⟨p.1, 0, none⟩ hlt hne).trans a0, (hg.cell_far ⟨p.1, 1, none⟩ hlt hne).trans a1, (hg.cell_far ⟨p.1, 2, none⟩ hlt hne).trans a2, (hg.cell_far ⟨p.1, 3, none⟩ hlt hne).trans a3, (hg.cell_far ⟨p.1, 4, none⟩ hlt hne).trans a4, (hg.cell_far ⟨p.1, 5, none⟩ hlt hne).trans a5⟩)
      clear y0 y1 y2 y3 y4 y5 hly
      have HBD := Aside0.mk (Below.refl wr.heap.size wr).drew
      have HNW := Aside0.mk (show n + 1 < wr.heap.size from by have := HN.out; have := HGB.out.size; omega)
      have HSF := Aside0.mk (show ∀ w', Below wr.heap.size wr w' → (fun w' : World => w'.cell? ⟨p.1, 0, none⟩ = some (.map (some b1)) ∧ w'.cell? ⟨p.1, 1, none⟩ = some (.map (some b2)) ∧ w'.cell? ⟨p.1, 2, none⟩ = some (.int .i64 (momS p.2.s)) ∧ w'.cell? ⟨p.1, 3, none⟩ = some (.int .i64 0) ∧ w'.cell? ⟨p.1, 4, none⟩ = some (.int .i64 (momS p.2.e)) ∧ w'.cell? ⟨p.1, 5, none⟩ = some (.int .i64 0)) w' ∧ w'.cell? ⟨n + 1, 0, none⟩ = some (.slice a5 ys.length c5) ∧ w'.frozen? ⟨n + 1, 0, none⟩ = false from fun w' hb => by
        obtain ⟨hl, a0, a1, a2, a3, a4, a5⟩ := HAL.out.1.next hb
        exact ⟨⟨a0, a1, a2, a3, a4, a5⟩, (hb.cell (p := ⟨n + 1, 0, none⟩) HNW.out).trans HU.out.1, (hb.frozen (p := ⟨n + 1, 0, none⟩) HNW.out).trans HU.out.2⟩)
      have HYL := Aside0.mk (show ys.length ≤ 8 by have h1 := congrArg List.length HKY.out; rw [List.length_map, List.length_map, List.length_take] at h1; have := HL2.out; omega)
      have HW2 := Aside0.mk (show w2.heap.size ≤ wr.heap.size from HWR.out)
      go_wp2_with fail
      obtain ⟨hS0, x0, t0⟩ := HSF.out _ HBD.out
      refine wp_region_noPanic ?_
      refine wp_region_held_drew (S := (fun w' : World => w'.cell? ⟨p.1, 0, none⟩ = some (.map (some b1)) ∧ w'.cell? ⟨p.1, 1, none⟩ = some (.map (some b2)) ∧ w'.cell? ⟨p.1, 2, none⟩ = some (.int .i64 (momS p.2.s)) ∧ w'.cell? ⟨p.1, 3, none⟩ = some (.int .i64 0) ∧ w'.cell? ⟨p.1, 4, none⟩ = some (.int .i64 (momS p.2.e)) ∧ w'.cell? ⟨p.1, 5, none⟩ = some (.int .i64 0))) (by kernel_rfl) (by (first | assumption | exact (HSF.out _ HBD.out).1 | exact (HSF.out _ (below_alloc HB4.out _)).1 | exact HSS.out _ _ hS5 | go_keep)) (fun hHeld => ?_)
      refine wpAnyH_take (i := 1) (oi := { dst := some 17, op := Op.move (Operand.tmp 4), type := 83, pos := "orders.go:214", after := #[], guard := none }) (v := ?v1) rfl (by kernel_rfl) (by kernel_rfl) (by kernel_rfl) (fun _ _ _ h => h) (Or.inl ⟨by rfl, ?hy1⟩) (by assumption) ?rest1
      case hy1 => (intro w' hSw; obtain ⟨y0, y1, y2, y3, y4, y5⟩ := hSw; go_simp; try with_reducible rfl)
      (try simp only [Act.put, List.setIfInBounds_toArray, List.set_cons_zero, List.set_cons_succ])
      refine wpAnyH_take (i := 2) (oi := { dst := some 18, op := Op.nilCheck (Operand.tmp 17), type := 0, pos := "orders.go:214", after := #[{ on := 1, ground := Ground.data }], guard := none }) (v := ?v2) rfl (by kernel_rfl) (by kernel_rfl) (by kernel_rfl) (fun _ _ _ h => h) (Or.inl ⟨by rfl, ?hy2⟩) (by assumption) ?rest2
      case hy2 => (intro w' hSw; obtain ⟨y0, y1, y2, y3, y4, y5⟩ := hSw; go_simp; try with_reducible rfl)
      (try simp only [Act.put, List.setIfInBounds_toArray, List.set_cons_zero, List.set_cons_succ])
      refine wpAnyH_take (i := 3) (oi := { dst := some 19, op := Op.fieldAddr 88 (Operand.tmp 18) 0, type := 0, pos := "orders.go:214", after := #[{ on := 2, ground := Ground.data }], guard := none }) (v := ?v3) rfl (by kernel_rfl) (by kernel_rfl) (by kernel_rfl) (fun _ _ _ h => h) (Or.inl ⟨by rfl, ?hy3⟩) (by assumption) ?rest3
      case hy3 => (intro w' hSw; obtain ⟨y0, y1, y2, y3, y4, y5⟩ := hSw; go_simp; try with_reducible rfl)
      (try simp only [Act.put, List.setIfInBounds_toArray, List.set_cons_zero, List.set_cons_succ])
      refine wpAnyH_take (i := 4) (oi := { dst := some 20, op := Op.load 75 (Operand.tmp 19), type := 75, pos := "orders.go:214", after := #[{ on := 3, ground := Ground.data }], guard := none }) (v := ?v4) rfl (by kernel_rfl) (by kernel_rfl) (by kernel_rfl) (fun _ _ _ h => h) (Or.inl ⟨by rfl, ?hy4⟩) (by assumption) ?rest4
      case hy4 => (intro w' hSw; obtain ⟨y0, y1, y2, y3, y4, y5⟩ := hSw; go_simp; try with_reducible rfl)
      (try simp only [Act.put, List.setIfInBounds_toArray, List.set_cons_zero, List.set_cons_succ])
      refine wpAnyH_take (i := 6) (oi := { dst := some 22, op := Op.move (Operand.tmp 4), type := 83, pos := "orders.go:214", after := #[], guard := none }) (v := ?v5) rfl (by kernel_rfl) (by kernel_rfl) (by kernel_rfl) (fun _ _ _ h => h) (Or.inl ⟨by rfl, ?hy5⟩) (by assumption) ?rest5
      case hy5 => (intro w' hSw; obtain ⟨y0, y1, y2, y3, y4, y5⟩ := hSw; go_simp; try with_reducible rfl)
      (try simp only [Act.put, List.setIfInBounds_toArray, List.set_cons_zero, List.set_cons_succ])
      refine wpAnyH_take (i := 7) (oi := { dst := some 23, op := Op.nilCheck (Operand.tmp 22), type := 0, pos := "orders.go:214", after := #[{ on := 6, ground := Ground.data }], guard := none }) (v := ?v6) rfl (by kernel_rfl) (by kernel_rfl) (by kernel_rfl) (fun _ _ _ h => h) (Or.inl ⟨by rfl, ?hy6⟩) (by assumption) ?rest6
      case hy6 => (intro w' hSw; obtain ⟨y0, y1, y2, y3, y4, y5⟩ := hSw; go_simp; try with_reducible rfl)
      (try simp only [Act.put, List.setIfInBounds_toArray, List.set_cons_zero, List.set_cons_succ])
      refine wpAnyH_take (i := 8) (oi := { dst := some 24, op := Op.fieldAddr 88 (Operand.tmp 23) 1, type := 0, pos := "orders.go:214", after := #[{ on := 7, ground := Ground.data }], guard := none }) (v := ?v7) rfl (by kernel_rfl) (by kernel_rfl) (by kernel_rfl) (fun _ _ _ h => h) (Or.inl ⟨by rfl, ?hy7⟩) (by assumption) ?rest7
      case hy7 => (intro w' hSw; obtain ⟨y0, y1, y2, y3, y4, y5⟩ := hSw; go_simp; try with_reducible rfl)
      (try simp only [Act.put, List.setIfInBounds_toArray, List.set_cons_zero, List.set_cons_succ])
      refine wpAnyH_take (i := 9) (oi := { dst := some 25, op := Op.load 75 (Operand.tmp 24), type := 75, pos := "orders.go:214", after := #[{ on := 8, ground := Ground.data }], guard := none }) (v := ?v8) rfl (by kernel_rfl) (by kernel_rfl) (by kernel_rfl) (fun _ _ _ h => h) (Or.inl ⟨by rfl, ?hy8⟩) (by assumption) ?rest8
      case hy8 => (intro w' hSw; obtain ⟨y0, y1, y2, y3, y4, y5⟩ := hSw; go_simp; try with_reducible rfl)
      (try simp only [Act.put, List.setIfInBounds_toArray, List.set_cons_zero, List.set_cons_succ])
      refine wpAnyH_take (i := 11) (oi := { dst := some 27, op := Op.move (Operand.tmp 4), type := 83, pos := "orders.go:214", after := #[], guard := none }) (v := ?v9) rfl (by kernel_rfl) (by kernel_rfl) (by kernel_rfl) (fun _ _ _ h => h) (Or.inl ⟨by rfl, ?hy9⟩) (by assumption) ?rest9
      case hy9 => (intro w' hSw; obtain ⟨y0, y1, y2, y3, y4, y5⟩ := hSw; go_simp; try with_reducible rfl)
      (try simp only [Act.put, List.setIfInBounds_toArray, List.set_cons_zero, List.set_cons_succ])
      refine wpAnyH_take (i := 12) (oi := { dst := some 28, op := Op.nilCheck (Operand.tmp 27), type := 0, pos := "orders.go:214", after := #[{ on := 11, ground := Ground.data }], guard := none }) (v := ?v10) rfl (by kernel_rfl) (by kernel_rfl) (by kernel_rfl) (fun _ _ _ h => h) (Or.inl ⟨by rfl, ?hy10⟩) (by assumption) ?rest10
      case hy10 => (intro w' hSw; obtain ⟨y0, y1, y2, y3, y4, y5⟩ := hSw; go_simp; try with_reducible rfl)
      (try simp only [Act.put, List.setIfInBounds_toArray, List.set_cons_zero, List.set_cons_succ])
      refine wpAnyH_take (i := 13) (oi := { dst := some 29, op := Op.fieldAddr 88 (Operand.tmp 28) 2, type := 0, pos := "orders.go:214", after := #[{ on := 12, ground := Ground.data }], guard := none }) (v := ?v11) rfl (by kernel_rfl) (by kernel_rfl) (by kernel_rfl) (fun _ _ _ h => h) (Or.inl ⟨by rfl, ?hy11⟩) (by assumption) ?rest11
      case hy11 => (intro w' hSw; obtain ⟨y0, y1, y2, y3, y4, y5⟩ := hSw; go_simp; try with_reducible rfl)
      (try simp only [Act.put, List.setIfInBounds_toArray, List.set_cons_zero, List.set_cons_succ])
      refine wpAnyH_take (i := 14) (oi := { dst := some 30, op := Op.load 85 (Operand.tmp 29), type := 85, pos := "orders.go:214", after := #[{ on := 13, ground := Ground.data }], guard := none }) (v := ?v12) rfl (by kernel_rfl) (by kernel_rfl) (by kernel_rfl) (fun _ _ _ h => h) (Or.inl ⟨by rfl, ?hy12⟩) (by assumption) ?rest12
      case hy12 => (intro w' hSw; obtain ⟨y0, y1, y2, y3, y4, y5⟩ := hSw; go_simp; try with_reducible rfl)
      (try simp only [Act.put, List.setIfInBounds_toArray, List.set_cons_zero, List.set_cons_succ])
      refine wpAnyH_take (i := 16) (oi := { dst := some 32, op := Op.move (Operand.tmp 4), type := 83, pos := "orders.go:214", after := #[], guard := none }) (v := ?v13) rfl (by kernel_rfl) (by kernel_rfl) (by kernel_rfl) (fun _ _ _ h => h) (Or.inl ⟨by rfl, ?hy13⟩) (by assumption) ?rest13
      case hy13 => (intro w' hSw; obtain ⟨y0, y1, y2, y3, y4, y5⟩ := hSw; go_simp; try with_reducible rfl)
      (try simp only [Act.put, List.setIfInBounds_toArray, List.set_cons_zero, List.set_cons_succ])
      refine wpAnyH_take (i := 17) (oi := { dst := some 33, op := Op.nilCheck (Operand.tmp 32), type := 0, pos := "orders.go:214", after := #[{ on := 16, ground := Ground.data }], guard := none }) (v := ?v14) rfl (by kernel_rfl) (by kernel_rfl) (by kernel_rfl) (fun _ _ _ h => h) (Or.inl ⟨by rfl, ?hy14⟩) (by assumption) ?rest14
      case hy14 => (intro w' hSw; obtain ⟨y0, y1, y2, y3, y4, y5⟩ := hSw; go_simp; try with_reducible rfl)
      (try simp only [Act.put, List.setIfInBounds_toArray, List.set_cons_zero, List.set_cons_succ])
      refine wpAnyH_take (i := 18) (oi := { dst := some 34, op := Op.fieldAddr 88 (Operand.tmp 33) 3, type := 0, pos := "orders.go:214", after := #[{ on := 17, ground := Ground.data }], guard := none }) (v := ?v15) rfl (by kernel_rfl) (by kernel_rfl) (by kernel_rfl) (fun _ _ _ h => h) (Or.inl ⟨by rfl, ?hy15⟩) (by assumption) ?rest15
      case hy15 => (intro w' hSw; obtain ⟨y0, y1, y2, y3, y4, y5⟩ := hSw; go_simp; try with_reducible rfl)
      (try simp only [Act.put, List.setIfInBounds_toArray, List.set_cons_zero, List.set_cons_succ])
      refine wpAnyH_take (i := 19) (oi := { dst := some 35, op := Op.load 85 (Operand.tmp 34), type := 85, pos := "orders.go:214", after := #[{ on := 18, ground := Ground.data }], guard := none }) (v := ?v16) rfl (by kernel_rfl) (by kernel_rfl) (by kernel_rfl) (fun _ _ _ h => h) (Or.inl ⟨by rfl, ?hy16⟩) (by assumption) ?rest16
      case hy16 => (intro w' hSw; obtain ⟨y0, y1, y2, y3, y4, y5⟩ := hSw; go_simp; try with_reducible rfl)
      (try simp only [Act.put, List.setIfInBounds_toArray, List.set_cons_zero, List.set_cons_succ])
      refine wpAnyH_ready (rs := [0, 5]) (by kernel_rfl) (by simp) ?_
      refine AllReadyH.cons (o := { dst := some 16, op := Op.load 49 (Operand.tmp 1), type := 49, pos := "orders.go:214", after := #[], guard := none }) rfl (fun K hK => ?_) ?_
      ·
        go_simp
        refine hK.out _ _ (by (first | assumption | exact (HSF.out _ HBD.out).1 | exact (HSF.out _ (below_alloc HB4.out _)).1 | exact HSS.out _ _ hS5 | go_keep)) (fun hHeld => ?_)
        (try simp only [Act.put, List.setIfInBounds_toArray, List.set_cons_zero, List.set_cons_succ])
        refine wpAnyH_ready (rs := [5]) (by kernel_rfl) (by simp) ?_
        refine AllReadyH.cons (o := { dst := some 21, op := Op.call { callee := Callee.value (Operand.func 86), args := #[Operand.tmp 20], argTypes := #[74] }, type := 22, pos := "orders.go:214", after := #[{ on := 4, ground := Ground.data }], guard := none }) rfl (fun K hK => ?_) ?_
        ·
          go_simp
          (go_at_call_of 86 (Value.map (some b1)); refine Calls.mono (sortedM_calls b1 20 p.2.la _ (HAL.out.2.1.next HBD.out) HGP.out.1 HGP.out.2.1) ?_; rintro e z1 ⟨q1, r1, rfl, hl1, hge1, hb1⟩; have HB1 := Aside0.mk (below_step HBD.out hb1); have HL1 := Aside0.mk (And.intro hl1 hge1); obtain ⟨hS1, x1, t1⟩ := HSF.out _ HB1.out; clear hl1 hge1 hb1)
          refine hK.out _ _ (by (first | assumption | exact (HSF.out _ HBD.out).1 | exact (HSF.out _ (below_alloc HB4.out _)).1 | exact HSS.out _ _ hS5 | go_keep)) (fun hHeld => ?_)
          (try simp only [Act.put, List.setIfInBounds_toArray, List.set_cons_zero, List.set_cons_succ])
          refine wpAnyH_ready (rs := [10]) (by kernel_rfl) (by simp) ?_
          refine AllReadyH.cons (o := { dst := some 26, op := Op.call { callee := Callee.value (Operand.func 86), args := #[Operand.tmp 25], argTypes := #[74] }, type := 22, pos := "orders.go:214", after := #[{ on := 9, ground := Ground.data }, { on := 5, ground := Ground.chain }], guard := none }) rfl (fun K hK => ?_) ?_
          ·
            go_simp
            (go_at_call_of 86 (Value.map (some b2)); refine Calls.mono (sortedM_calls b2 20 p.2.lb _ (HAL.out.2.2.next HB1.out) (by rw [HGP.out.2.2.1]; exact ⟨by simp, fun p hp => by cases hp⟩) (by rw [HGP.out.2.2.1]; exact List.Pairwise.nil)) ?_; rintro e z2 ⟨q2, r2, rfl, hl2, hge2, hb2⟩; have HB2' := Aside0.mk (below_step HB1.out hb2); have HL12 := Aside0.mk (HL1.out.1.next hb2); obtain ⟨hS2, x2, t2⟩ := HSF.out _ HB2'.out; clear hl2 hge2 hb2)
            refine hK.out _ _ (by (first | assumption | exact (HSF.out _ HBD.out).1 | exact (HSF.out _ (below_alloc HB4.out _)).1 | exact HSS.out _ _ hS5 | go_keep)) (fun hHeld => ?_)
            (try simp only [Act.put, List.setIfInBounds_toArray, List.set_cons_zero, List.set_cons_succ])
            refine wpAnyH_ready (rs := [15]) (by kernel_rfl) (by simp) ?_
            refine AllReadyH.cons (o := { dst := some 31, op := Op.call { callee := Callee.value (Operand.func 87), args := #[Operand.tmp 30], argTypes := #[85] }, type := 2, pos := "orders.go:214", after := #[{ on := 14, ground := Ground.data }, { on := 10, ground := Ground.chain }], guard := none }) rfl (fun K hK => ?_) ?_
            ·
              go_simp
              (go_at_call_of 87 (Value.agg #[Value.int IntKind.i64 (momS p.2.s), Value.int IntKind.i64 0]); refine Calls.mono (seconds_calls p.2.s HGP.out.2.2.2.1 HGP.out.2.2.2.2.1 _) ?_; rintro e z3 ⟨rfl, hb3⟩; have HB3 := Aside0.mk (below_step HB2'.out hb3); have HL13 := Aside0.mk (HL12.out.next hb3); obtain ⟨hS3, x3, t3⟩ := HSF.out _ HB3.out; clear hb3)
              refine hK.out _ _ (by (first | assumption | exact (HSF.out _ HBD.out).1 | exact (HSF.out _ (below_alloc HB4.out _)).1 | exact HSS.out _ _ hS5 | go_keep)) (fun hHeld => ?_)
              (try simp only [Act.put, List.setIfInBounds_toArray, List.set_cons_zero, List.set_cons_succ])
              refine wpAnyH_ready (rs := [20]) (by kernel_rfl) (by simp) ?_
              refine AllReadyH.cons (o := { dst := some 36, op := Op.call { callee := Callee.value (Operand.func 87), args := #[Operand.tmp 35], argTypes := #[85] }, type := 2, pos := "orders.go:214", after := #[{ on := 19, ground := Ground.data }, { on := 15, ground := Ground.chain }], guard := none }) rfl (fun K hK => ?_) ?_
              ·
                go_simp
                (go_at_call_of 87 (Value.agg #[Value.int IntKind.i64 (momS p.2.e), Value.int IntKind.i64 0]); refine Calls.mono (seconds_calls p.2.e HGP.out.2.2.2.2.2.1 HGP.out.2.2.2.2.2.2 _) ?_; rintro e z4 ⟨rfl, hb4⟩; have HB4 := Aside0.mk (below_step HB3.out hb4); have HL14 := Aside0.mk (HL13.out.next hb4); obtain ⟨hS4, x4, t4⟩ := HSF.out _ HB4.out; have HR4 := Aside0.mk (own_next HRD.out HB4.out); have HZ4 := Aside0.mk HB4.out.size; have y4 := (HSF.out _ (below_alloc HB4.out (Obj.cells #[Value.slice (some ⟨q1, 0, none⟩) p.2.la.length r1, Value.slice (some ⟨q2, 0, none⟩) p.2.lb.length r2, Value.int IntKind.i64 p.2.s, Value.int IntKind.i64 p.2.e] 31))).2.1; clear hb4)
                refine hK.out _ _ (by (first | assumption | exact (HSF.out _ HBD.out).1 | exact (HSF.out _ (below_alloc HB4.out _)).1 | exact HSS.out _ _ hS5 | go_keep)) (fun hHeld => ?_)
                (try simp only [Act.put, List.setIfInBounds_toArray, List.set_cons_zero, List.set_cons_succ])
                refine wpAnyH_take (i := 21) (oi := { dst := some 37, op := Op.build 31 #[(0, Operand.tmp 21), (1, Operand.tmp 26), (2, Operand.tmp 31), (3, Operand.tmp 36)], type := 31, pos := "orders.go:214", after := #[{ on := 5, ground := Ground.data }, { on := 10, ground := Ground.data }, { on := 15, ground := Ground.data }, { on := 20, ground := Ground.data }], guard := none }) (v := ?v17) rfl (by kernel_rfl) (by kernel_rfl) (by kernel_rfl) (fun _ _ _ h => h) (Or.inl ⟨by rfl, ?hy17⟩) (by assumption) ?rest17
                case hy17 => (intro w' hSw; obtain ⟨y0, y1, y2, y3, y4, y5⟩ := hSw; go_simp; try with_reducible rfl)
                (try simp only [Act.put, List.setIfInBounds_toArray, List.set_cons_zero, List.set_cons_succ])
                refine wpAnyH_ready (rs := [22]) (by kernel_rfl) (by simp) ?_
                refine AllReadyH.cons (o := { dst := some 38, op := Op.buildSlice 49 1 #[(0, Operand.tmp 37)], type := 49, pos := "orders.go:214", after := #[{ on := 21, ground := Ground.data }], guard := none }) rfl (fun K hK => ?_) ?_
                ·
                  go_simp
                  refine hK.out _ _ (by (first | assumption | exact (HSF.out _ HBD.out).1 | exact (HSF.out _ (below_alloc HB4.out _)).1 | exact HSS.out _ _ hS5 | go_keep)) (fun hHeld => ?_)
                  (try simp only [Act.put, List.setIfInBounds_toArray, List.set_cons_zero, List.set_cons_succ])
                  refine wpAnyH_ready (rs := [23]) (by kernel_rfl) (by simp) ?_
                  refine AllReadyH.cons (o := { dst := some 39, op := Op.call { callee := Callee.builtin Builtin.append, args := #[Operand.tmp 16, Operand.tmp 38], argTypes := #[49, 49] }, type := 49, pos := "orders.go:214", after := #[{ on := 0, ground := Ground.data }, { on := 22, ground := Ground.data }, { on := 20, ground := Ground.chain }], guard := none }) rfl (fun K hK => ?_) ?_
                  ·
                    (refine step_append_lies _ rfl _ _ 49 rfl w2.heap.size 31 i0 (.agg #[.slice none 0 0, .slice none 0 0, .int .i64 0, .int .i64 0]) 4 64 Tryz.underlying49 HI.out.1 HI.out.2.1 HI.out.2.2.1 HI.out.2.2.2 rfl (by decide) _ _ _ rfl (World.ownsRow.alloc HR4.out _) ⟨z4.heap.size, 0, none⟩ 1 1 [.slice (some ⟨q1, 0, none⟩) p.2.la.length r1, .slice (some ⟨q2, 0, none⟩) p.2.lb.length r2, .int .i64 p.2.s, .int .i64 p.2.e] rfl rfl ?hnews (by simp [Value.oneCell']) (by decide) (by have := HYL.out; unfold maxLen; omega) (by have := HYL.out; omega) ?hbase _ rfl ?_; (case hnews => (intro j uu hj; rw [addr_add]; rcases j with _ | _ | _ | _ | j; (cases hj; simp [go_sem]); (cases hj; simp [go_sem]); (cases hj; simp [go_sem]); (cases hj; simp [go_sem]); (simp at hj))); (case hbase => (have h1 := HW2.out; have h2 := HZ4.out; simp; omega)); intro g5 cap5 z5 hown5 hg5 hat5 hlt5; have HX5 := Aside0.mk (And.intro hown5 hg5); have hS5 := (HFAR.out _ _ _ (HSF.out _ (below_alloc HB4.out _)).1 hg5 HR4.out (by have h1 := HPL.out; have h2 := HZ4.out; have h3 := HW2.out; simp; omega)); have x5 := (hg5.cell_far ⟨n + 1, 0, none⟩ (by have h1 := HNW.out; have h2 := HZ4.out; simp; omega) (HNE1.out _ HR4.out)).trans (HSF.out _ (below_alloc HB4.out _)).2.1; have t5 := (hg5.frozen_far ⟨n + 1, 0, none⟩ (by have h1 := HNW.out; have h2 := HZ4.out; simp; omega) (HNE1.out _ HR4.out)).trans (HSF.out _ (below_alloc HB4.out _)).2.2; clear hown5 hg5)
                    refine hK.out _ _ (by (first | assumption | exact (HSF.out _ HBD.out).1 | exact (HSF.out _ (below_alloc HB4.out _)).1 | exact HSS.out _ _ hS5 | go_keep)) (fun hHeld => ?_)
                    (try simp only [Act.put, List.setIfInBounds_toArray, List.set_cons_zero, List.set_cons_succ])
                    refine wpAnyH_ready (rs := [24]) (by kernel_rfl) (by simp) ?_
                    refine AllReadyH.cons (o := { dst := none, op := Op.store 49 (Operand.tmp 1) (Operand.tmp 39), type := 0, pos := "orders.go:214", after := #[{ on := 23, ground := Ground.data }, { on := 23, ground := Ground.chain }, { on := 0, ground := Ground.phase }, { on := 1, ground := Ground.phase }, { on := 2, ground := Ground.phase }, { on := 3, ground := Ground.phase }, { on := 4, ground := Ground.phase }, { on := 5, ground := Ground.phase }, { on := 6, ground := Ground.phase }, { on := 7, ground := Ground.phase }, { on := 8, ground := Ground.phase }, { on := 9, ground := Ground.phase }, { on := 10, ground := Ground.phase }, { on := 11, ground := Ground.phase }, { on := 12, ground := Ground.phase }, { on := 13, ground := Ground.phase }, { on := 14, ground := Ground.phase }, { on := 15, ground := Ground.phase }, { on := 16, ground := Ground.phase }, { on := 17, ground := Ground.phase }, { on := 18, ground := Ground.phase }, { on := 19, ground := Ground.phase }, { on := 20, ground := Ground.phase }, { on := 21, ground := Ground.phase }, { on := 22, ground := Ground.phase }, { on := 23, ground := Ground.phase }], guard := none }) rfl (fun K hK => ?_) ?_
                    ·
                      go_simp
                      refine hK.out _ _ (by (first | assumption | exact (HSF.out _ HBD.out).1 | exact (HSF.out _ (below_alloc HB4.out _)).1 | exact HSS.out _ _ hS5 | go_keep)) (fun hHeld => ?_)
                      (try simp only [Act.put, List.setIfInBounds_toArray, List.set_cons_zero, List.set_cons_succ])
                      refine wpAnyH_done (by kernel_rfl) ?_ _
                      refine NoPanic.normal ?_
                      have HXT := Aside0.mk (And.intro x5 t5)
                      clear x5 t5
                      have hl2 := HL2.out
                      go_wp2_with fail
                      go_roundg g1
                      case measure => omega
                      case rel =>
                        obtain ⟨hown, hg5⟩ := HX5.out
                        have hbw := below_alloc HB4.out (Obj.cells #[Value.slice (some ⟨q1, 0, none⟩) p.2.la.length r1, Value.slice (some ⟨q2, 0, none⟩) p.2.lb.length r2, Value.int IntKind.i64 p.2.s, Value.int IntKind.i64 p.2.e] 31)
                        have hrow : RowD z5 w2.heap.size (.slice (some ⟨g5, 0, none⟩) (ys.length + 1) cap5) (ys ++ [AlD.mk (some ⟨q1, 0, none⟩) r1 p.2.la (some ⟨q2, 0, none⟩) r2 p.2.lb p.2.s p.2.e]) := by
                          unfold RowD
                          rw [List.length_append, cellsD_append]
                          exact hown
                        have hr4 := own_next HRD.out hbw
                        have hn := HN.out
                        have hw2 := HW2.out
                        have hwz := HB2.out.size
                        have hrl : ∀ k, (Value.slice a5 ys.length c5).ownBlock = some k → w2.heap.size ≤ k ∧ k < wr.heap.size := World.ownsRow.lt HRD.out
                        have hne1 : ∀ k, w2.heap.size ≤ k → some k ≠ some (⟨n + 1, 0, none⟩ : Addr).block := fun k hk e => by have := Option.some.inj e; simp at this; omega
                        have hne2 : ∀ k, k < w2.heap.size → some k ≠ (Value.slice a5 ys.length c5).ownBlock := fun k hk e => by have := (hrl k e.symm).1; omega
                        have hg6 := grownBy_setCell z5 ⟨n + 1, 0, none⟩ (.slice (some ⟨g5, 0, none⟩) (ys.length + 1) cap5)
                        have hs5 := hg5.size
                        have hsb := hbw.size
                        refine ⟨i + 1, ys ++ [AlD.mk (some ⟨q1, 0, none⟩) r1 p.2.la (some ⟨q2, 0, none⟩) r2 p.2.lb p.2.s p.2.e], _, by go_num, by omega, by omega, ⟨World.cell?_setCell_same _ _ _ HXT.out.1, by rw [World.frozen?_setCell]; exact HXT.out.2⟩, ⟨World.ownsRow.kept hrow hg6 (Or.inr fun e => hne1 _ (World.ownsRow.lt hrow _ rfl).1 e)⟩, ⟨?_⟩, ⟨?_⟩, ⟨?_⟩, ⟨?_⟩, ⟨?_⟩, ⟨?_⟩⟩
                        · intro y hy
                          rcases List.mem_append.1 hy with hy | hy
                          · obtain ⟨o1, o2, gg, o3, o4⟩ := HOW.out y hy
                            refine ⟨o1, ?_, gg, o3, o4⟩
                            rw [o3] at o2 ⊢
                            have o5 := o2.next hbw
                            rcases o5.or_ne (RowD.first hr4 (List.length_pos_of_mem hy)) with o6 | o6
                            · rw [o6]; exact .inl rfl
                            · exact (o5.kept hg5 o6).kept hg6 (hne1 _ o4)
                          · rw [List.mem_singleton] at hy
                            subst hy
                            refine ⟨HGP.out.2.2.1, ?_, q1, rfl, Nat.le_trans hw2 HL1.out.2⟩
                            exact ((Labs.next HL14.out (below_alloc (Below.refl _ _) _)).kept hg5 (fun e => by have := (hrl _ e.symm).2; have := HL1.out.2; have h9 : wr.heap.size ≤ q1 := HL1.out.2; omega)).kept hg6 (hne1 _ (Nat.le_trans hw2 HL1.out.2))
                        · rw [List.map_append, HKY.out, List.take_succ_eq_append_getElem hlt, List.map_append, HPP.out]
                          rfl
                        · exact ((HA3.out.next hbw).far hg5 (fun p' hp' => hne2 _ (HPG.out p' hp').2) (fun b n l hm => own_ne_map hr4 hm)).far hg6 (fun p' hp' e => by have h6 : p'.1 = n + 1 := Option.some.inj e; have h7 := (HPG.out p' hp').1; omega) (fun b n' l hm => map_ne_cell hm HXT.out.1)
                        · exact World.ownsRow.kept (World.ownsRow.kept (own_next HR3.out hbw) hg5 (Or.inr (hne2 _ HGLT.out.2))) hg6 (Or.inr fun e => by have h6 : n + 1 = g := Option.some.inj (by first | exact e | exact e.symm); have h7 := HGLT.out.1; omega)
                        · exact gb_grown (gb_grown (gb_below HGB.out hbw) hg5 (fun k hk => .inl (Nat.le_trans hwz (hrl k hk).1))) hg6 (fun k hk => .inr (Option.some.inj hk).symm)
                        · simp [World.setCell]
                          omega
                    exact AllReadyH.nil
                  exact AllReadyH.nil
                exact AllReadyH.nil
              exact AllReadyH.nil
            exact AllReadyH.nil
          exact AllReadyH.nil
        exact AllReadyH.nil
      refine AllReadyH.cons (o := { dst := some 21, op := Op.call { callee := Callee.value (Operand.func 86), args := #[Operand.tmp 20], argTypes := #[74] }, type := 22, pos := "orders.go:214", after := #[{ on := 4, ground := Ground.data }], guard := none }) rfl (fun K hK => ?_) ?_
      ·
        go_simp
        (go_at_call_of 86 (Value.map (some b1)); refine Calls.mono (sortedM_calls b1 20 p.2.la _ (HAL.out.2.1.next HBD.out) HGP.out.1 HGP.out.2.1) ?_; rintro e z1 ⟨q1, r1, rfl, hl1, hge1, hb1⟩; have HB1 := Aside0.mk (below_step HBD.out hb1); have HL1 := Aside0.mk (And.intro hl1 hge1); obtain ⟨hS1, x1, t1⟩ := HSF.out _ HB1.out; clear hl1 hge1 hb1)
        refine hK.out _ _ (by (first | assumption | exact (HSF.out _ HBD.out).1 | exact (HSF.out _ (below_alloc HB4.out _)).1 | exact HSS.out _ _ hS5 | go_keep)) (fun hHeld => ?_)
        (try simp only [Act.put, List.setIfInBounds_toArray, List.set_cons_zero, List.set_cons_succ])
        refine wpAnyH_ready (rs := [0, 10]) (by kernel_rfl) (by simp) ?_
        refine AllReadyH.cons (o := { dst := some 16, op := Op.load 49 (Operand.tmp 1), type := 49, pos := "orders.go:214", after := #[], guard := none }) rfl (fun K hK => ?_) ?_
        ·
          go_simp
          refine hK.out _ _ (by (first | assumption | exact (HSF.out _ HBD.out).1 | exact (HSF.out _ (below_alloc HB4.out _)).1 | exact HSS.out _ _ hS5 | go_keep)) (fun hHeld => ?_)
          (try simp only [Act.put, List.setIfInBounds_toArray, List.set_cons_zero, List.set_cons_succ])
          refine wpAnyH_ready (rs := [10]) (by kernel_rfl) (by simp) ?_
          refine AllReadyH.cons (o := { dst := some 26, op := Op.call { callee := Callee.value (Operand.func 86), args := #[Operand.tmp 25], argTypes := #[74] }, type := 22, pos := "orders.go:214", after := #[{ on := 9, ground := Ground.data }, { on := 5, ground := Ground.chain }], guard := none }) rfl (fun K hK => ?_) ?_
          ·
            go_simp
            (go_at_call_of 86 (Value.map (some b2)); refine Calls.mono (sortedM_calls b2 20 p.2.lb _ (HAL.out.2.2.next HB1.out) (by rw [HGP.out.2.2.1]; exact ⟨by simp, fun p hp => by cases hp⟩) (by rw [HGP.out.2.2.1]; exact List.Pairwise.nil)) ?_; rintro e z2 ⟨q2, r2, rfl, hl2, hge2, hb2⟩; have HB2' := Aside0.mk (below_step HB1.out hb2); have HL12 := Aside0.mk (HL1.out.1.next hb2); obtain ⟨hS2, x2, t2⟩ := HSF.out _ HB2'.out; clear hl2 hge2 hb2)
            refine hK.out _ _ (by (first | assumption | exact (HSF.out _ HBD.out).1 | exact (HSF.out _ (below_alloc HB4.out _)).1 | exact HSS.out _ _ hS5 | go_keep)) (fun hHeld => ?_)
            (try simp only [Act.put, List.setIfInBounds_toArray, List.set_cons_zero, List.set_cons_succ])
            refine wpAnyH_ready (rs := [15]) (by kernel_rfl) (by simp) ?_
            refine AllReadyH.cons (o := { dst := some 31, op := Op.call { callee := Callee.value (Operand.func 87), args := #[Operand.tmp 30], argTypes := #[85] }, type := 2, pos := "orders.go:214", after := #[{ on := 14, ground := Ground.data }, { on := 10, ground := Ground.chain }], guard := none }) rfl (fun K hK => ?_) ?_
            ·
              go_simp
              (go_at_call_of 87 (Value.agg #[Value.int IntKind.i64 (momS p.2.s), Value.int IntKind.i64 0]); refine Calls.mono (seconds_calls p.2.s HGP.out.2.2.2.1 HGP.out.2.2.2.2.1 _) ?_; rintro e z3 ⟨rfl, hb3⟩; have HB3 := Aside0.mk (below_step HB2'.out hb3); have HL13 := Aside0.mk (HL12.out.next hb3); obtain ⟨hS3, x3, t3⟩ := HSF.out _ HB3.out; clear hb3)
              refine hK.out _ _ (by (first | assumption | exact (HSF.out _ HBD.out).1 | exact (HSF.out _ (below_alloc HB4.out _)).1 | exact HSS.out _ _ hS5 | go_keep)) (fun hHeld => ?_)
              (try simp only [Act.put, List.setIfInBounds_toArray, List.set_cons_zero, List.set_cons_succ])
              refine wpAnyH_ready (rs := [20]) (by kernel_rfl) (by simp) ?_
              refine AllReadyH.cons (o := { dst := some 36, op := Op.call { callee := Callee.value (Operand.func 87), args := #[Operand.tmp 35], argTypes := #[85] }, type := 2, pos := "orders.go:214", after := #[{ on := 19, ground := Ground.data }, { on := 15, ground := Ground.chain }], guard := none }) rfl (fun K hK => ?_) ?_
              ·
                go_simp
                (go_at_call_of 87 (Value.agg #[Value.int IntKind.i64 (momS p.2.e), Value.int IntKind.i64 0]); refine Calls.mono (seconds_calls p.2.e HGP.out.2.2.2.2.2.1 HGP.out.2.2.2.2.2.2 _) ?_; rintro e z4 ⟨rfl, hb4⟩; have HB4 := Aside0.mk (below_step HB3.out hb4); have HL14 := Aside0.mk (HL13.out.next hb4); obtain ⟨hS4, x4, t4⟩ := HSF.out _ HB4.out; have HR4 := Aside0.mk (own_next HRD.out HB4.out); have HZ4 := Aside0.mk HB4.out.size; have y4 := (HSF.out _ (below_alloc HB4.out (Obj.cells #[Value.slice (some ⟨q1, 0, none⟩) p.2.la.length r1, Value.slice (some ⟨q2, 0, none⟩) p.2.lb.length r2, Value.int IntKind.i64 p.2.s, Value.int IntKind.i64 p.2.e] 31))).2.1; clear hb4)
                refine hK.out _ _ (by (first | assumption | exact (HSF.out _ HBD.out).1 | exact (HSF.out _ (below_alloc HB4.out _)).1 | exact HSS.out _ _ hS5 | go_keep)) (fun hHeld => ?_)
                (try simp only [Act.put, List.setIfInBounds_toArray, List.set_cons_zero, List.set_cons_succ])
                refine wpAnyH_take (i := 21) (oi := { dst := some 37, op := Op.build 31 #[(0, Operand.tmp 21), (1, Operand.tmp 26), (2, Operand.tmp 31), (3, Operand.tmp 36)], type := 31, pos := "orders.go:214", after := #[{ on := 5, ground := Ground.data }, { on := 10, ground := Ground.data }, { on := 15, ground := Ground.data }, { on := 20, ground := Ground.data }], guard := none }) (v := ?v18) rfl (by kernel_rfl) (by kernel_rfl) (by kernel_rfl) (fun _ _ _ h => h) (Or.inl ⟨by rfl, ?hy18⟩) (by assumption) ?rest18
                case hy18 => (intro w' hSw; obtain ⟨y0, y1, y2, y3, y4, y5⟩ := hSw; go_simp; try with_reducible rfl)
                (try simp only [Act.put, List.setIfInBounds_toArray, List.set_cons_zero, List.set_cons_succ])
                refine wpAnyH_ready (rs := [22]) (by kernel_rfl) (by simp) ?_
                refine AllReadyH.cons (o := { dst := some 38, op := Op.buildSlice 49 1 #[(0, Operand.tmp 37)], type := 49, pos := "orders.go:214", after := #[{ on := 21, ground := Ground.data }], guard := none }) rfl (fun K hK => ?_) ?_
                ·
                  go_simp
                  refine hK.out _ _ (by (first | assumption | exact (HSF.out _ HBD.out).1 | exact (HSF.out _ (below_alloc HB4.out _)).1 | exact HSS.out _ _ hS5 | go_keep)) (fun hHeld => ?_)
                  (try simp only [Act.put, List.setIfInBounds_toArray, List.set_cons_zero, List.set_cons_succ])
                  refine wpAnyH_ready (rs := [23]) (by kernel_rfl) (by simp) ?_
                  refine AllReadyH.cons (o := { dst := some 39, op := Op.call { callee := Callee.builtin Builtin.append, args := #[Operand.tmp 16, Operand.tmp 38], argTypes := #[49, 49] }, type := 49, pos := "orders.go:214", after := #[{ on := 0, ground := Ground.data }, { on := 22, ground := Ground.data }, { on := 20, ground := Ground.chain }], guard := none }) rfl (fun K hK => ?_) ?_
                  ·
                    (refine step_append_lies _ rfl _ _ 49 rfl w2.heap.size 31 i0 (.agg #[.slice none 0 0, .slice none 0 0, .int .i64 0, .int .i64 0]) 4 64 Tryz.underlying49 HI.out.1 HI.out.2.1 HI.out.2.2.1 HI.out.2.2.2 rfl (by decide) _ _ _ rfl (World.ownsRow.alloc HR4.out _) ⟨z4.heap.size, 0, none⟩ 1 1 [.slice (some ⟨q1, 0, none⟩) p.2.la.length r1, .slice (some ⟨q2, 0, none⟩) p.2.lb.length r2, .int .i64 p.2.s, .int .i64 p.2.e] rfl rfl ?hnews (by simp [Value.oneCell']) (by decide) (by have := HYL.out; unfold maxLen; omega) (by have := HYL.out; omega) ?hbase _ rfl ?_; (case hnews => (intro j uu hj; rw [addr_add]; rcases j with _ | _ | _ | _ | j; (cases hj; simp [go_sem]); (cases hj; simp [go_sem]); (cases hj; simp [go_sem]); (cases hj; simp [go_sem]); (simp at hj))); (case hbase => (have h1 := HW2.out; have h2 := HZ4.out; simp; omega)); intro g5 cap5 z5 hown5 hg5 hat5 hlt5; have HX5 := Aside0.mk (And.intro hown5 hg5); have hS5 := (HFAR.out _ _ _ (HSF.out _ (below_alloc HB4.out _)).1 hg5 HR4.out (by have h1 := HPL.out; have h2 := HZ4.out; have h3 := HW2.out; simp; omega)); have x5 := (hg5.cell_far ⟨n + 1, 0, none⟩ (by have h1 := HNW.out; have h2 := HZ4.out; simp; omega) (HNE1.out _ HR4.out)).trans (HSF.out _ (below_alloc HB4.out _)).2.1; have t5 := (hg5.frozen_far ⟨n + 1, 0, none⟩ (by have h1 := HNW.out; have h2 := HZ4.out; simp; omega) (HNE1.out _ HR4.out)).trans (HSF.out _ (below_alloc HB4.out _)).2.2; clear hown5 hg5)
                    refine hK.out _ _ (by (first | assumption | exact (HSF.out _ HBD.out).1 | exact (HSF.out _ (below_alloc HB4.out _)).1 | exact HSS.out _ _ hS5 | go_keep)) (fun hHeld => ?_)
                    (try simp only [Act.put, List.setIfInBounds_toArray, List.set_cons_zero, List.set_cons_succ])
                    refine wpAnyH_ready (rs := [24]) (by kernel_rfl) (by simp) ?_
                    refine AllReadyH.cons (o := { dst := none, op := Op.store 49 (Operand.tmp 1) (Operand.tmp 39), type := 0, pos := "orders.go:214", after := #[{ on := 23, ground := Ground.data }, { on := 23, ground := Ground.chain }, { on := 0, ground := Ground.phase }, { on := 1, ground := Ground.phase }, { on := 2, ground := Ground.phase }, { on := 3, ground := Ground.phase }, { on := 4, ground := Ground.phase }, { on := 5, ground := Ground.phase }, { on := 6, ground := Ground.phase }, { on := 7, ground := Ground.phase }, { on := 8, ground := Ground.phase }, { on := 9, ground := Ground.phase }, { on := 10, ground := Ground.phase }, { on := 11, ground := Ground.phase }, { on := 12, ground := Ground.phase }, { on := 13, ground := Ground.phase }, { on := 14, ground := Ground.phase }, { on := 15, ground := Ground.phase }, { on := 16, ground := Ground.phase }, { on := 17, ground := Ground.phase }, { on := 18, ground := Ground.phase }, { on := 19, ground := Ground.phase }, { on := 20, ground := Ground.phase }, { on := 21, ground := Ground.phase }, { on := 22, ground := Ground.phase }, { on := 23, ground := Ground.phase }], guard := none }) rfl (fun K hK => ?_) ?_
                    ·
                      go_simp
                      refine hK.out _ _ (by (first | assumption | exact (HSF.out _ HBD.out).1 | exact (HSF.out _ (below_alloc HB4.out _)).1 | exact HSS.out _ _ hS5 | go_keep)) (fun hHeld => ?_)
                      (try simp only [Act.put, List.setIfInBounds_toArray, List.set_cons_zero, List.set_cons_succ])
                      refine wpAnyH_done (by kernel_rfl) ?_ _
                      refine NoPanic.normal ?_
                      have HXT := Aside0.mk (And.intro x5 t5)
                      clear x5 t5
                      have hl2 := HL2.out
                      go_wp2_with fail
                      go_roundg g1
                      case measure => omega
                      case rel =>
                        obtain ⟨hown, hg5⟩ := HX5.out
                        have hbw := below_alloc HB4.out (Obj.cells #[Value.slice (some ⟨q1, 0, none⟩) p.2.la.length r1, Value.slice (some ⟨q2, 0, none⟩) p.2.lb.length r2, Value.int IntKind.i64 p.2.s, Value.int IntKind.i64 p.2.e] 31)
                        have hrow : RowD z5 w2.heap.size (.slice (some ⟨g5, 0, none⟩) (ys.length + 1) cap5) (ys ++ [AlD.mk (some ⟨q1, 0, none⟩) r1 p.2.la (some ⟨q2, 0, none⟩) r2 p.2.lb p.2.s p.2.e]) := by
                          unfold RowD
                          rw [List.length_append, cellsD_append]
                          exact hown
                        have hr4 := own_next HRD.out hbw
                        have hn := HN.out
                        have hw2 := HW2.out
                        have hwz := HB2.out.size
                        have hrl : ∀ k, (Value.slice a5 ys.length c5).ownBlock = some k → w2.heap.size ≤ k ∧ k < wr.heap.size := World.ownsRow.lt HRD.out
                        have hne1 : ∀ k, w2.heap.size ≤ k → some k ≠ some (⟨n + 1, 0, none⟩ : Addr).block := fun k hk e => by have := Option.some.inj e; simp at this; omega
                        have hne2 : ∀ k, k < w2.heap.size → some k ≠ (Value.slice a5 ys.length c5).ownBlock := fun k hk e => by have := (hrl k e.symm).1; omega
                        have hg6 := grownBy_setCell z5 ⟨n + 1, 0, none⟩ (.slice (some ⟨g5, 0, none⟩) (ys.length + 1) cap5)
                        have hs5 := hg5.size
                        have hsb := hbw.size
                        refine ⟨i + 1, ys ++ [AlD.mk (some ⟨q1, 0, none⟩) r1 p.2.la (some ⟨q2, 0, none⟩) r2 p.2.lb p.2.s p.2.e], _, by go_num, by omega, by omega, ⟨World.cell?_setCell_same _ _ _ HXT.out.1, by rw [World.frozen?_setCell]; exact HXT.out.2⟩, ⟨World.ownsRow.kept hrow hg6 (Or.inr fun e => hne1 _ (World.ownsRow.lt hrow _ rfl).1 e)⟩, ⟨?_⟩, ⟨?_⟩, ⟨?_⟩, ⟨?_⟩, ⟨?_⟩, ⟨?_⟩⟩
                        · intro y hy
                          rcases List.mem_append.1 hy with hy | hy
                          · obtain ⟨o1, o2, gg, o3, o4⟩ := HOW.out y hy
                            refine ⟨o1, ?_, gg, o3, o4⟩
                            rw [o3] at o2 ⊢
                            have o5 := o2.next hbw
                            rcases o5.or_ne (RowD.first hr4 (List.length_pos_of_mem hy)) with o6 | o6
                            · rw [o6]; exact .inl rfl
                            · exact (o5.kept hg5 o6).kept hg6 (hne1 _ o4)
                          · rw [List.mem_singleton] at hy
                            subst hy
                            refine ⟨HGP.out.2.2.1, ?_, q1, rfl, Nat.le_trans hw2 HL1.out.2⟩
                            exact ((Labs.next HL14.out (below_alloc (Below.refl _ _) _)).kept hg5 (fun e => by have := (hrl _ e.symm).2; have := HL1.out.2; have h9 : wr.heap.size ≤ q1 := HL1.out.2; omega)).kept hg6 (hne1 _ (Nat.le_trans hw2 HL1.out.2))
                        · rw [List.map_append, HKY.out, List.take_succ_eq_append_getElem hlt, List.map_append, HPP.out]
                          rfl
                        · exact ((HA3.out.next hbw).far hg5 (fun p' hp' => hne2 _ (HPG.out p' hp').2) (fun b n l hm => own_ne_map hr4 hm)).far hg6 (fun p' hp' e => by have h6 : p'.1 = n + 1 := Option.some.inj e; have h7 := (HPG.out p' hp').1; omega) (fun b n' l hm => map_ne_cell hm HXT.out.1)
                        · exact World.ownsRow.kept (World.ownsRow.kept (own_next HR3.out hbw) hg5 (Or.inr (hne2 _ HGLT.out.2))) hg6 (Or.inr fun e => by have h6 : n + 1 = g := Option.some.inj (by first | exact e | exact e.symm); have h7 := HGLT.out.1; omega)
                        · exact gb_grown (gb_grown (gb_below HGB.out hbw) hg5 (fun k hk => .inl (Nat.le_trans hwz (hrl k hk).1))) hg6 (fun k hk => .inr (Option.some.inj hk).symm)
                        · simp [World.setCell]
                          omega
                    exact AllReadyH.nil
                  exact AllReadyH.nil
                exact AllReadyH.nil
              exact AllReadyH.nil
            exact AllReadyH.nil
          exact AllReadyH.nil
        refine AllReadyH.cons (o := { dst := some 26, op := Op.call { callee := Callee.value (Operand.func 86), args := #[Operand.tmp 25], argTypes := #[74] }, type := 22, pos := "orders.go:214", after := #[{ on := 9, ground := Ground.data }, { on := 5, ground := Ground.chain }], guard := none }) rfl (fun K hK => ?_) ?_
        ·
          go_simp
          (go_at_call_of 86 (Value.map (some b2)); refine Calls.mono (sortedM_calls b2 20 p.2.lb _ (HAL.out.2.2.next HB1.out) (by rw [HGP.out.2.2.1]; exact ⟨by simp, fun p hp => by cases hp⟩) (by rw [HGP.out.2.2.1]; exact List.Pairwise.nil)) ?_; rintro e z2 ⟨q2, r2, rfl, hl2, hge2, hb2⟩; have HB2' := Aside0.mk (below_step HB1.out hb2); have HL12 := Aside0.mk (HL1.out.1.next hb2); obtain ⟨hS2, x2, t2⟩ := HSF.out _ HB2'.out; clear hl2 hge2 hb2)
          refine hK.out _ _ (by (first | assumption | exact (HSF.out _ HBD.out).1 | exact (HSF.out _ (below_alloc HB4.out _)).1 | exact HSS.out _ _ hS5 | go_keep)) (fun hHeld => ?_)
          (try simp only [Act.put, List.setIfInBounds_toArray, List.set_cons_zero, List.set_cons_succ])
          refine wpAnyH_ready (rs := [0, 15]) (by kernel_rfl) (by simp) ?_
          refine AllReadyH.cons (o := { dst := some 16, op := Op.load 49 (Operand.tmp 1), type := 49, pos := "orders.go:214", after := #[], guard := none }) rfl (fun K hK => ?_) ?_
          ·
            go_simp
            refine hK.out _ _ (by (first | assumption | exact (HSF.out _ HBD.out).1 | exact (HSF.out _ (below_alloc HB4.out _)).1 | exact HSS.out _ _ hS5 | go_keep)) (fun hHeld => ?_)
            (try simp only [Act.put, List.setIfInBounds_toArray, List.set_cons_zero, List.set_cons_succ])
            refine wpAnyH_ready (rs := [15]) (by kernel_rfl) (by simp) ?_
            refine AllReadyH.cons (o := { dst := some 31, op := Op.call { callee := Callee.value (Operand.func 87), args := #[Operand.tmp 30], argTypes := #[85] }, type := 2, pos := "orders.go:214", after := #[{ on := 14, ground := Ground.data }, { on := 10, ground := Ground.chain }], guard := none }) rfl (fun K hK => ?_) ?_
            ·
              go_simp
              (go_at_call_of 87 (Value.agg #[Value.int IntKind.i64 (momS p.2.s), Value.int IntKind.i64 0]); refine Calls.mono (seconds_calls p.2.s HGP.out.2.2.2.1 HGP.out.2.2.2.2.1 _) ?_; rintro e z3 ⟨rfl, hb3⟩; have HB3 := Aside0.mk (below_step HB2'.out hb3); have HL13 := Aside0.mk (HL12.out.next hb3); obtain ⟨hS3, x3, t3⟩ := HSF.out _ HB3.out; clear hb3)
              refine hK.out _ _ (by (first | assumption | exact (HSF.out _ HBD.out).1 | exact (HSF.out _ (below_alloc HB4.out _)).1 | exact HSS.out _ _ hS5 | go_keep)) (fun hHeld => ?_)
              (try simp only [Act.put, List.setIfInBounds_toArray, List.set_cons_zero, List.set_cons_succ])
              refine wpAnyH_ready (rs := [20]) (by kernel_rfl) (by simp) ?_
              refine AllReadyH.cons (o := { dst := some 36, op := Op.call { callee := Callee.value (Operand.func 87), args := #[Operand.tmp 35], argTypes := #[85] }, type := 2, pos := "orders.go:214", after := #[{ on := 19, ground := Ground.data }, { on := 15, ground := Ground.chain }], guard := none }) rfl (fun K hK => ?_) ?_
              ·
                go_simp
                (go_at_call_of 87 (Value.agg #[Value.int IntKind.i64 (momS p.2.e), Value.int IntKind.i64 0]); refine Calls.mono (seconds_calls p.2.e HGP.out.2.2.2.2.2.1 HGP.out.2.2.2.2.2.2 _) ?_; rintro e z4 ⟨rfl, hb4⟩; have HB4 := Aside0.mk (below_step HB3.out hb4); have HL14 := Aside0.mk (HL13.out.next hb4); obtain ⟨hS4, x4, t4⟩ := HSF.out _ HB4.out; have HR4 := Aside0.mk (own_next HRD.out HB4.out); have HZ4 := Aside0.mk HB4.out.size; have y4 := (HSF.out _ (below_alloc HB4.out (Obj.cells #[Value.slice (some ⟨q1, 0, none⟩) p.2.la.length r1, Value.slice (some ⟨q2, 0, none⟩) p.2.lb.length r2, Value.int IntKind.i64 p.2.s, Value.int IntKind.i64 p.2.e] 31))).2.1; clear hb4)
                refine hK.out _ _ (by (first | assumption | exact (HSF.out _ HBD.out).1 | exact (HSF.out _ (below_alloc HB4.out _)).1 | exact HSS.out _ _ hS5 | go_keep)) (fun hHeld => ?_)
                (try simp only [Act.put, List.setIfInBounds_toArray, List.set_cons_zero, List.set_cons_succ])
                refine wpAnyH_take (i := 21) (oi := { dst := some 37, op := Op.build 31 #[(0, Operand.tmp 21), (1, Operand.tmp 26), (2, Operand.tmp 31), (3, Operand.tmp 36)], type := 31, pos := "orders.go:214", after := #[{ on := 5, ground := Ground.data }, { on := 10, ground := Ground.data }, { on := 15, ground := Ground.data }, { on := 20, ground := Ground.data }], guard := none }) (v := ?v19) rfl (by kernel_rfl) (by kernel_rfl) (by kernel_rfl) (fun _ _ _ h => h) (Or.inl ⟨by rfl, ?hy19⟩) (by assumption) ?rest19
                case hy19 => (intro w' hSw; obtain ⟨y0, y1, y2, y3, y4, y5⟩ := hSw; go_simp; try with_reducible rfl)
                (try simp only [Act.put, List.setIfInBounds_toArray, List.set_cons_zero, List.set_cons_succ])
                refine wpAnyH_ready (rs := [22]) (by kernel_rfl) (by simp) ?_
                refine AllReadyH.cons (o := { dst := some 38, op := Op.buildSlice 49 1 #[(0, Operand.tmp 37)], type := 49, pos := "orders.go:214", after := #[{ on := 21, ground := Ground.data }], guard := none }) rfl (fun K hK => ?_) ?_
                ·
                  go_simp
                  refine hK.out _ _ (by (first | assumption | exact (HSF.out _ HBD.out).1 | exact (HSF.out _ (below_alloc HB4.out _)).1 | exact HSS.out _ _ hS5 | go_keep)) (fun hHeld => ?_)
                  (try simp only [Act.put, List.setIfInBounds_toArray, List.set_cons_zero, List.set_cons_succ])
                  refine wpAnyH_ready (rs := [23]) (by kernel_rfl) (by simp) ?_
                  refine AllReadyH.cons (o := { dst := some 39, op := Op.call { callee := Callee.builtin Builtin.append, args := #[Operand.tmp 16, Operand.tmp 38], argTypes := #[49, 49] }, type := 49, pos := "orders.go:214", after := #[{ on := 0, ground := Ground.data }, { on := 22, ground := Ground.data }, { on := 20, ground := Ground.chain }], guard := none }) rfl (fun K hK => ?_) ?_
                  ·
                    (refine step_append_lies _ rfl _ _ 49 rfl w2.heap.size 31 i0 (.agg #[.slice none 0 0, .slice none 0 0, .int .i64 0, .int .i64 0]) 4 64 Tryz.underlying49 HI.out.1 HI.out.2.1 HI.out.2.2.1 HI.out.2.2.2 rfl (by decide) _ _ _ rfl (World.ownsRow.alloc HR4.out _) ⟨z4.heap.size, 0, none⟩ 1 1 [.slice (some ⟨q1, 0, none⟩) p.2.la.length r1, .slice (some ⟨q2, 0, none⟩) p.2.lb.length r2, .int .i64 p.2.s, .int .i64 p.2.e] rfl rfl ?hnews (by simp [Value.oneCell']) (by decide) (by have := HYL.out; unfold maxLen; omega) (by have := HYL.out; omega) ?hbase _ rfl ?_; (case hnews => (intro j uu hj; rw [addr_add]; rcases j with _ | _ | _ | _ | j; (cases hj; simp [go_sem]); (cases hj; simp [go_sem]); (cases hj; simp [go_sem]); (cases hj; simp [go_sem]); (simp at hj))); (case hbase => (have h1 := HW2.out; have h2 := HZ4.out; simp; omega)); intro g5 cap5 z5 hown5 hg5 hat5 hlt5; have HX5 := Aside0.mk (And.intro hown5 hg5); have hS5 := (HFAR.out _ _ _ (HSF.out _ (below_alloc HB4.out _)).1 hg5 HR4.out (by have h1 := HPL.out; have h2 := HZ4.out; have h3 := HW2.out; simp; omega)); have x5 := (hg5.cell_far ⟨n + 1, 0, none⟩ (by have h1 := HNW.out; have h2 := HZ4.out; simp; omega) (HNE1.out _ HR4.out)).trans (HSF.out _ (below_alloc HB4.out _)).2.1; have t5 := (hg5.frozen_far ⟨n + 1, 0, none⟩ (by have h1 := HNW.out; have h2 := HZ4.out; simp; omega) (HNE1.out _ HR4.out)).trans (HSF.out _ (below_alloc HB4.out _)).2.2; clear hown5 hg5)
                    refine hK.out _ _ (by (first | assumption | exact (HSF.out _ HBD.out).1 | exact (HSF.out _ (below_alloc HB4.out _)).1 | exact HSS.out _ _ hS5 | go_keep)) (fun hHeld => ?_)
                    (try simp only [Act.put, List.setIfInBounds_toArray, List.set_cons_zero, List.set_cons_succ])
                    refine wpAnyH_ready (rs := [24]) (by kernel_rfl) (by simp) ?_
                    refine AllReadyH.cons (o := { dst := none, op := Op.store 49 (Operand.tmp 1) (Operand.tmp 39), type := 0, pos := "orders.go:214", after := #[{ on := 23, ground := Ground.data }, { on := 23, ground := Ground.chain }, { on := 0, ground := Ground.phase }, { on := 1, ground := Ground.phase }, { on := 2, ground := Ground.phase }, { on := 3, ground := Ground.phase }, { on := 4, ground := Ground.phase }, { on := 5, ground := Ground.phase }, { on := 6, ground := Ground.phase }, { on := 7, ground := Ground.phase }, { on := 8, ground := Ground.phase }, { on := 9, ground := Ground.phase }, { on := 10, ground := Ground.phase }, { on := 11, ground := Ground.phase }, { on := 12, ground := Ground.phase }, { on := 13, ground := Ground.phase }, { on := 14, ground := Ground.phase }, { on := 15, ground := Ground.phase }, { on := 16, ground := Ground.phase }, { on := 17, ground := Ground.phase }, { on := 18, ground := Ground.phase }, { on := 19, ground := Ground.phase }, { on := 20, ground := Ground.phase }, { on := 21, ground := Ground.phase }, { on := 22, ground := Ground.phase }, { on := 23, ground := Ground.phase }], guard := none }) rfl (fun K hK => ?_) ?_
                    ·
                      go_simp
                      refine hK.out _ _ (by (first | assumption | exact (HSF.out _ HBD.out).1 | exact (HSF.out _ (below_alloc HB4.out _)).1 | exact HSS.out _ _ hS5 | go_keep)) (fun hHeld => ?_)
                      (try simp only [Act.put, List.setIfInBounds_toArray, List.set_cons_zero, List.set_cons_succ])
                      refine wpAnyH_done (by kernel_rfl) ?_ _
                      refine NoPanic.normal ?_
                      have HXT := Aside0.mk (And.intro x5 t5)
                      clear x5 t5
                      have hl2 := HL2.out
                      go_wp2_with fail
                      go_roundg g1
                      case measure => omega
                      case rel =>
                        obtain ⟨hown, hg5⟩ := HX5.out
                        have hbw := below_alloc HB4.out (Obj.cells #[Value.slice (some ⟨q1, 0, none⟩) p.2.la.length r1, Value.slice (some ⟨q2, 0, none⟩) p.2.lb.length r2, Value.int IntKind.i64 p.2.s, Value.int IntKind.i64 p.2.e] 31)
                        have hrow : RowD z5 w2.heap.size (.slice (some ⟨g5, 0, none⟩) (ys.length + 1) cap5) (ys ++ [AlD.mk (some ⟨q1, 0, none⟩) r1 p.2.la (some ⟨q2, 0, none⟩) r2 p.2.lb p.2.s p.2.e]) := by
                          unfold RowD
                          rw [List.length_append, cellsD_append]
                          exact hown
                        have hr4 := own_next HRD.out hbw
                        have hn := HN.out
                        have hw2 := HW2.out
                        have hwz := HB2.out.size
                        have hrl : ∀ k, (Value.slice a5 ys.length c5).ownBlock = some k → w2.heap.size ≤ k ∧ k < wr.heap.size := World.ownsRow.lt HRD.out
                        have hne1 : ∀ k, w2.heap.size ≤ k → some k ≠ some (⟨n + 1, 0, none⟩ : Addr).block := fun k hk e => by have := Option.some.inj e; simp at this; omega
                        have hne2 : ∀ k, k < w2.heap.size → some k ≠ (Value.slice a5 ys.length c5).ownBlock := fun k hk e => by have := (hrl k e.symm).1; omega
                        have hg6 := grownBy_setCell z5 ⟨n + 1, 0, none⟩ (.slice (some ⟨g5, 0, none⟩) (ys.length + 1) cap5)
                        have hs5 := hg5.size
                        have hsb := hbw.size
                        refine ⟨i + 1, ys ++ [AlD.mk (some ⟨q1, 0, none⟩) r1 p.2.la (some ⟨q2, 0, none⟩) r2 p.2.lb p.2.s p.2.e], _, by go_num, by omega, by omega, ⟨World.cell?_setCell_same _ _ _ HXT.out.1, by rw [World.frozen?_setCell]; exact HXT.out.2⟩, ⟨World.ownsRow.kept hrow hg6 (Or.inr fun e => hne1 _ (World.ownsRow.lt hrow _ rfl).1 e)⟩, ⟨?_⟩, ⟨?_⟩, ⟨?_⟩, ⟨?_⟩, ⟨?_⟩, ⟨?_⟩⟩
                        · intro y hy
                          rcases List.mem_append.1 hy with hy | hy
                          · obtain ⟨o1, o2, gg, o3, o4⟩ := HOW.out y hy
                            refine ⟨o1, ?_, gg, o3, o4⟩
                            rw [o3] at o2 ⊢
                            have o5 := o2.next hbw
                            rcases o5.or_ne (RowD.first hr4 (List.length_pos_of_mem hy)) with o6 | o6
                            · rw [o6]; exact .inl rfl
                            · exact (o5.kept hg5 o6).kept hg6 (hne1 _ o4)
                          · rw [List.mem_singleton] at hy
                            subst hy
                            refine ⟨HGP.out.2.2.1, ?_, q1, rfl, Nat.le_trans hw2 HL1.out.2⟩
                            exact ((Labs.next HL14.out (below_alloc (Below.refl _ _) _)).kept hg5 (fun e => by have := (hrl _ e.symm).2; have := HL1.out.2; have h9 : wr.heap.size ≤ q1 := HL1.out.2; omega)).kept hg6 (hne1 _ (Nat.le_trans hw2 HL1.out.2))
                        · rw [List.map_append, HKY.out, List.take_succ_eq_append_getElem hlt, List.map_append, HPP.out]
                          rfl
                        · exact ((HA3.out.next hbw).far hg5 (fun p' hp' => hne2 _ (HPG.out p' hp').2) (fun b n l hm => own_ne_map hr4 hm)).far hg6 (fun p' hp' e => by have h6 : p'.1 = n + 1 := Option.some.inj e; have h7 := (HPG.out p' hp').1; omega) (fun b n' l hm => map_ne_cell hm HXT.out.1)
                        · exact World.ownsRow.kept (World.ownsRow.kept (own_next HR3.out hbw) hg5 (Or.inr (hne2 _ HGLT.out.2))) hg6 (Or.inr fun e => by have h6 : n + 1 = g := Option.some.inj (by first | exact e | exact e.symm); have h7 := HGLT.out.1; omega)
                        · exact gb_grown (gb_grown (gb_below HGB.out hbw) hg5 (fun k hk => .inl (Nat.le_trans hwz (hrl k hk).1))) hg6 (fun k hk => .inr (Option.some.inj hk).symm)
                        · simp [World.setCell]
                          omega
                    exact AllReadyH.nil
                  exact AllReadyH.nil
                exact AllReadyH.nil
              exact AllReadyH.nil
            exact AllReadyH.nil
          refine AllReadyH.cons (o := { dst := some 31, op := Op.call { callee := Callee.value (Operand.func 87), args := #[Operand.tmp 30], argTypes := #[85] }, type := 2, pos := "orders.go:214", after := #[{ on := 14, ground := Ground.data }, { on := 10, ground := Ground.chain }], guard := none }) rfl (fun K hK => ?_) ?_
          ·
            go_simp
            (go_at_call_of 87 (Value.agg #[Value.int IntKind.i64 (momS p.2.s), Value.int IntKind.i64 0]); refine Calls.mono (seconds_calls p.2.s HGP.out.2.2.2.1 HGP.out.2.2.2.2.1 _) ?_; rintro e z3 ⟨rfl, hb3⟩; have HB3 := Aside0.mk (below_step HB2'.out hb3); have HL13 := Aside0.mk (HL12.out.next hb3); obtain ⟨hS3, x3, t3⟩ := HSF.out _ HB3.out; clear hb3)
            refine hK.out _ _ (by (first | assumption | exact (HSF.out _ HBD.out).1 | exact (HSF.out _ (below_alloc HB4.out _)).1 | exact HSS.out _ _ hS5 | go_keep)) (fun hHeld => ?_)
            (try simp only [Act.put, List.setIfInBounds_toArray, List.set_cons_zero, List.set_cons_succ])
            refine wpAnyH_ready (rs := [0, 20]) (by kernel_rfl) (by simp) ?_
            refine AllReadyH.cons (o := { dst := some 16, op := Op.load 49 (Operand.tmp 1), type := 49, pos := "orders.go:214", after := #[], guard := none }) rfl (fun K hK => ?_) ?_
            ·
              go_simp
              refine hK.out _ _ (by (first | assumption | exact (HSF.out _ HBD.out).1 | exact (HSF.out _ (below_alloc HB4.out _)).1 | exact HSS.out _ _ hS5 | go_keep)) (fun hHeld => ?_)
              (try simp only [Act.put, List.setIfInBounds_toArray, List.set_cons_zero, List.set_cons_succ])
              refine wpAnyH_ready (rs := [20]) (by kernel_rfl) (by simp) ?_
              refine AllReadyH.cons (o := { dst := some 36, op := Op.call { callee := Callee.value (Operand.func 87), args := #[Operand.tmp 35], argTypes := #[85] }, type := 2, pos := "orders.go:214", after := #[{ on := 19, ground := Ground.data }, { on := 15, ground := Ground.chain }], guard := none }) rfl (fun K hK => ?_) ?_
              ·
                go_simp
                (go_at_call_of 87 (Value.agg #[Value.int IntKind.i64 (momS p.2.e), Value.int IntKind.i64 0]); refine Calls.mono (seconds_calls p.2.e HGP.out.2.2.2.2.2.1 HGP.out.2.2.2.2.2.2 _) ?_; rintro e z4 ⟨rfl, hb4⟩; have HB4 := Aside0.mk (below_step HB3.out hb4); have HL14 := Aside0.mk (HL13.out.next hb4); obtain ⟨hS4, x4, t4⟩ := HSF.out _ HB4.out; have HR4 := Aside0.mk (own_next HRD.out HB4.out); have HZ4 := Aside0.mk HB4.out.size; have y4 := (HSF.out _ (below_alloc HB4.out (Obj.cells #[Value.slice (some ⟨q1, 0, none⟩) p.2.la.length r1, Value.slice (some ⟨q2, 0, none⟩) p.2.lb.length r2, Value.int IntKind.i64 p.2.s, Value.int IntKind.i64 p.2.e] 31))).2.1; clear hb4)
                refine hK.out _ _ (by (first | assumption | exact (HSF.out _ HBD.out).1 | exact (HSF.out _ (below_alloc HB4.out _)).1 | exact HSS.out _ _ hS5 | go_keep)) (fun hHeld => ?_)
                (try simp only [Act.put, List.setIfInBounds_toArray, List.set_cons_zero, List.set_cons_succ])
                refine wpAnyH_take (i := 21) (oi := { dst := some 37, op := Op.build 31 #[(0, Operand.tmp 21), (1, Operand.tmp 26), (2, Operand.tmp 31), (3, Operand.tmp 36)], type := 31, pos := "orders.go:214", after := #[{ on := 5, ground := Ground.data }, { on := 10, ground := Ground.data }, { on := 15, ground := Ground.data }, { on := 20, ground := Ground.data }], guard := none }) (v := ?v20) rfl (by kernel_rfl) (by kernel_rfl) (by kernel_rfl) (fun _ _ _ h => h) (Or.inl ⟨by rfl, ?hy20⟩) (by assumption) ?rest20
                case hy20 => (intro w' hSw; obtain ⟨y0, y1, y2, y3, y4, y5⟩ := hSw; go_simp; try with_reducible rfl)
                (try simp only [Act.put, List.setIfInBounds_toArray, List.set_cons_zero, List.set_cons_succ])
                refine wpAnyH_ready (rs := [22]) (by kernel_rfl) (by simp) ?_
                refine AllReadyH.cons (o := { dst := some 38, op := Op.buildSlice 49 1 #[(0, Operand.tmp 37)], type := 49, pos := "orders.go:214", after := #[{ on := 21, ground := Ground.data }], guard := none }) rfl (fun K hK => ?_) ?_
                ·
                  go_simp
                  refine hK.out _ _ (by (first | assumption | exact (HSF.out _ HBD.out).1 | exact (HSF.out _ (below_alloc HB4.out _)).1 | exact HSS.out _ _ hS5 | go_keep)) (fun hHeld => ?_)
                  (try simp only [Act.put, List.setIfInBounds_toArray, List.set_cons_zero, List.set_cons_succ])
                  refine wpAnyH_ready (rs := [23]) (by kernel_rfl) (by simp) ?_
                  refine AllReadyH.cons (o := { dst := some 39, op := Op.call { callee := Callee.builtin Builtin.append, args := #[Operand.tmp 16, Operand.tmp 38], argTypes := #[49, 49] }, type := 49, pos := "orders.go:214", after := #[{ on := 0, ground := Ground.data }, { on := 22, ground := Ground.data }, { on := 20, ground := Ground.chain }], guard := none }) rfl (fun K hK => ?_) ?_
                  ·
                    (refine step_append_lies _ rfl _ _ 49 rfl w2.heap.size 31 i0 (.agg #[.slice none 0 0, .slice none 0 0, .int .i64 0, .int .i64 0]) 4 64 Tryz.underlying49 HI.out.1 HI.out.2.1 HI.out.2.2.1 HI.out.2.2.2 rfl (by decide) _ _ _ rfl (World.ownsRow.alloc HR4.out _) ⟨z4.heap.size, 0, none⟩ 1 1 [.slice (some ⟨q1, 0, none⟩) p.2.la.length r1, .slice (some ⟨q2, 0, none⟩) p.2.lb.length r2, .int .i64 p.2.s, .int .i64 p.2.e] rfl rfl ?hnews (by simp [Value.oneCell']) (by decide) (by have := HYL.out; unfold maxLen; omega) (by have := HYL.out; omega) ?hbase _ rfl ?_; (case hnews => (intro j uu hj; rw [addr_add]; rcases j with _ | _ | _ | _ | j; (cases hj; simp [go_sem]); (cases hj; simp [go_sem]); (cases hj; simp [go_sem]); (cases hj; simp [go_sem]); (simp at hj))); (case hbase => (have h1 := HW2.out; have h2 := HZ4.out; simp; omega)); intro g5 cap5 z5 hown5 hg5 hat5 hlt5; have HX5 := Aside0.mk (And.intro hown5 hg5); have hS5 := (HFAR.out _ _ _ (HSF.out _ (below_alloc HB4.out _)).1 hg5 HR4.out (by have h1 := HPL.out; have h2 := HZ4.out; have h3 := HW2.out; simp; omega)); have x5 := (hg5.cell_far ⟨n + 1, 0, none⟩ (by have h1 := HNW.out; have h2 := HZ4.out; simp; omega) (HNE1.out _ HR4.out)).trans (HSF.out _ (below_alloc HB4.out _)).2.1; have t5 := (hg5.frozen_far ⟨n + 1, 0, none⟩ (by have h1 := HNW.out; have h2 := HZ4.out; simp; omega) (HNE1.out _ HR4.out)).trans (HSF.out _ (below_alloc HB4.out _)).2.2; clear hown5 hg5)
                    refine hK.out _ _ (by (first | assumption | exact (HSF.out _ HBD.out).1 | exact (HSF.out _ (below_alloc HB4.out _)).1 | exact HSS.out _ _ hS5 | go_keep)) (fun hHeld => ?_)
                    (try simp only [Act.put, List.setIfInBounds_toArray, List.set_cons_zero, List.set_cons_succ])
                    refine wpAnyH_ready (rs := [24]) (by kernel_rfl) (by simp) ?_
                    refine AllReadyH.cons (o := { dst := none, op := Op.store 49 (Operand.tmp 1) (Operand.tmp 39), type := 0, pos := "orders.go:214", after := #[{ on := 23, ground := Ground.data }, { on := 23, ground := Ground.chain }, { on := 0, ground := Ground.phase }, { on := 1, ground := Ground.phase }, { on := 2, ground := Ground.phase }, { on := 3, ground := Ground.phase }, { on := 4, ground := Ground.phase }, { on := 5, ground := Ground.phase }, { on := 6, ground := Ground.phase }, { on := 7, ground := Ground.phase }, { on := 8, ground := Ground.phase }, { on := 9, ground := Ground.phase }, { on := 10, ground := Ground.phase }, { on := 11, ground := Ground.phase }, { on := 12, ground := Ground.phase }, { on := 13, ground := Ground.phase }, { on := 14, ground := Ground.phase }, { on := 15, ground := Ground.phase }, { on := 16, ground := Ground.phase }, { on := 17, ground := Ground.phase }, { on := 18, ground := Ground.phase }, { on := 19, ground := Ground.phase }, { on := 20, ground := Ground.phase }, { on := 21, ground := Ground.phase }, { on := 22, ground := Ground.phase }, { on := 23, ground := Ground.phase }], guard := none }) rfl (fun K hK => ?_) ?_
                    ·
                      go_simp
                      refine hK.out _ _ (by (first | assumption | exact (HSF.out _ HBD.out).1 | exact (HSF.out _ (below_alloc HB4.out _)).1 | exact HSS.out _ _ hS5 | go_keep)) (fun hHeld => ?_)
                      (try simp only [Act.put, List.setIfInBounds_toArray, List.set_cons_zero, List.set_cons_succ])
                      refine wpAnyH_done (by kernel_rfl) ?_ _
                      refine NoPanic.normal ?_
                      have HXT := Aside0.mk (And.intro x5 t5)
                      clear x5 t5
                      have hl2 := HL2.out
                      go_wp2_with fail
                      go_roundg g1
                      case measure => omega
                      case rel =>
                        obtain ⟨hown, hg5⟩ := HX5.out
                        have hbw := below_alloc HB4.out (Obj.cells #[Value.slice (some ⟨q1, 0, none⟩) p.2.la.length r1, Value.slice (some ⟨q2, 0, none⟩) p.2.lb.length r2, Value.int IntKind.i64 p.2.s, Value.int IntKind.i64 p.2.e] 31)
                        have hrow : RowD z5 w2.heap.size (.slice (some ⟨g5, 0, none⟩) (ys.length + 1) cap5) (ys ++ [AlD.mk (some ⟨q1, 0, none⟩) r1 p.2.la (some ⟨q2, 0, none⟩) r2 p.2.lb p.2.s p.2.e]) := by
                          unfold RowD
                          rw [List.length_append, cellsD_append]
                          exact hown
                        have hr4 := own_next HRD.out hbw
                        have hn := HN.out
                        have hw2 := HW2.out
                        have hwz := HB2.out.size
                        have hrl : ∀ k, (Value.slice a5 ys.length c5).ownBlock = some k → w2.heap.size ≤ k ∧ k < wr.heap.size := World.ownsRow.lt HRD.out
                        have hne1 : ∀ k, w2.heap.size ≤ k → some k ≠ some (⟨n + 1, 0, none⟩ : Addr).block := fun k hk e => by have := Option.some.inj e; simp at this; omega
                        have hne2 : ∀ k, k < w2.heap.size → some k ≠ (Value.slice a5 ys.length c5).ownBlock := fun k hk e => by have := (hrl k e.symm).1; omega
                        have hg6 := grownBy_setCell z5 ⟨n + 1, 0, none⟩ (.slice (some ⟨g5, 0, none⟩) (ys.length + 1) cap5)
                        have hs5 := hg5.size
                        have hsb := hbw.size
                        refine ⟨i + 1, ys ++ [AlD.mk (some ⟨q1, 0, none⟩) r1 p.2.la (some ⟨q2, 0, none⟩) r2 p.2.lb p.2.s p.2.e], _, by go_num, by omega, by omega, ⟨World.cell?_setCell_same _ _ _ HXT.out.1, by rw [World.frozen?_setCell]; exact HXT.out.2⟩, ⟨World.ownsRow.kept hrow hg6 (Or.inr fun e => hne1 _ (World.ownsRow.lt hrow _ rfl).1 e)⟩, ⟨?_⟩, ⟨?_⟩, ⟨?_⟩, ⟨?_⟩, ⟨?_⟩, ⟨?_⟩⟩
                        · intro y hy
                          rcases List.mem_append.1 hy with hy | hy
                          · obtain ⟨o1, o2, gg, o3, o4⟩ := HOW.out y hy
                            refine ⟨o1, ?_, gg, o3, o4⟩
                            rw [o3] at o2 ⊢
                            have o5 := o2.next hbw
                            rcases o5.or_ne (RowD.first hr4 (List.length_pos_of_mem hy)) with o6 | o6
                            · rw [o6]; exact .inl rfl
                            · exact (o5.kept hg5 o6).kept hg6 (hne1 _ o4)
                          · rw [List.mem_singleton] at hy
                            subst hy
                            refine ⟨HGP.out.2.2.1, ?_, q1, rfl, Nat.le_trans hw2 HL1.out.2⟩
                            exact ((Labs.next HL14.out (below_alloc (Below.refl _ _) _)).kept hg5 (fun e => by have := (hrl _ e.symm).2; have := HL1.out.2; have h9 : wr.heap.size ≤ q1 := HL1.out.2; omega)).kept hg6 (hne1 _ (Nat.le_trans hw2 HL1.out.2))
                        · rw [List.map_append, HKY.out, List.take_succ_eq_append_getElem hlt, List.map_append, HPP.out]
                          rfl
                        · exact ((HA3.out.next hbw).far hg5 (fun p' hp' => hne2 _ (HPG.out p' hp').2) (fun b n l hm => own_ne_map hr4 hm)).far hg6 (fun p' hp' e => by have h6 : p'.1 = n + 1 := Option.some.inj e; have h7 := (HPG.out p' hp').1; omega) (fun b n' l hm => map_ne_cell hm HXT.out.1)
                        · exact World.ownsRow.kept (World.ownsRow.kept (own_next HR3.out hbw) hg5 (Or.inr (hne2 _ HGLT.out.2))) hg6 (Or.inr fun e => by have h6 : n + 1 = g := Option.some.inj (by first | exact e | exact e.symm); have h7 := HGLT.out.1; omega)
                        · exact gb_grown (gb_grown (gb_below HGB.out hbw) hg5 (fun k hk => .inl (Nat.le_trans hwz (hrl k hk).1))) hg6 (fun k hk => .inr (Option.some.inj hk).symm)
                        · simp [World.setCell]
                          omega
                    exact AllReadyH.nil
                  exact AllReadyH.nil
                exact AllReadyH.nil
              exact AllReadyH.nil
            refine AllReadyH.cons (o := { dst := some 36, op := Op.call { callee := Callee.value (Operand.func 87), args := #[Operand.tmp 35], argTypes := #[85] }, type := 2, pos := "orders.go:214", after := #[{ on := 19, ground := Ground.data }, { on := 15, ground := Ground.chain }], guard := none }) rfl (fun K hK => ?_) ?_
            ·
              go_simp
              (go_at_call_of 87 (Value.agg #[Value.int IntKind.i64 (momS p.2.e), Value.int IntKind.i64 0]); refine Calls.mono (seconds_calls p.2.e HGP.out.2.2.2.2.2.1 HGP.out.2.2.2.2.2.2 _) ?_; rintro e z4 ⟨rfl, hb4⟩; have HB4 := Aside0.mk (below_step HB3.out hb4); have HL14 := Aside0.mk (HL13.out.next hb4); obtain ⟨hS4, x4, t4⟩ := HSF.out _ HB4.out; have HR4 := Aside0.mk (own_next HRD.out HB4.out); have HZ4 := Aside0.mk HB4.out.size; have y4 := (HSF.out _ (below_alloc HB4.out (Obj.cells #[Value.slice (some ⟨q1, 0, none⟩) p.2.la.length r1, Value.slice (some ⟨q2, 0, none⟩) p.2.lb.length r2, Value.int IntKind.i64 p.2.s, Value.int IntKind.i64 p.2.e] 31))).2.1; clear hb4)
              refine hK.out _ _ (by (first | assumption | exact (HSF.out _ HBD.out).1 | exact (HSF.out _ (below_alloc HB4.out _)).1 | exact HSS.out _ _ hS5 | go_keep)) (fun hHeld => ?_)
              (try simp only [Act.put, List.setIfInBounds_toArray, List.set_cons_zero, List.set_cons_succ])
              refine wpAnyH_take (i := 21) (oi := { dst := some 37, op := Op.build 31 #[(0, Operand.tmp 21), (1, Operand.tmp 26), (2, Operand.tmp 31), (3, Operand.tmp 36)], type := 31, pos := "orders.go:214", after := #[{ on := 5, ground := Ground.data }, { on := 10, ground := Ground.data }, { on := 15, ground := Ground.data }, { on := 20, ground := Ground.data }], guard := none }) (v := ?v21) rfl (by kernel_rfl) (by kernel_rfl) (by kernel_rfl) (fun _ _ _ h => h) (Or.inl ⟨by rfl, ?hy21⟩) (by assumption) ?rest21
              case hy21 => (intro w' hSw; obtain ⟨y0, y1, y2, y3, y4, y5⟩ := hSw; go_simp; try with_reducible rfl)
              (try simp only [Act.put, List.setIfInBounds_toArray, List.set_cons_zero, List.set_cons_succ])
              refine wpAnyH_ready (rs := [0, 22]) (by kernel_rfl) (by simp) ?_
              refine AllReadyH.cons (o := { dst := some 16, op := Op.load 49 (Operand.tmp 1), type := 49, pos := "orders.go:214", after := #[], guard := none }) rfl (fun K hK => ?_) ?_
              ·
                go_simp
                refine hK.out _ _ (by (first | assumption | exact (HSF.out _ HBD.out).1 | exact (HSF.out _ (below_alloc HB4.out _)).1 | exact HSS.out _ _ hS5 | go_keep)) (fun hHeld => ?_)
                (try simp only [Act.put, List.setIfInBounds_toArray, List.set_cons_zero, List.set_cons_succ])
                refine wpAnyH_ready (rs := [22]) (by kernel_rfl) (by simp) ?_
                refine AllReadyH.cons (o := { dst := some 38, op := Op.buildSlice 49 1 #[(0, Operand.tmp 37)], type := 49, pos := "orders.go:214", after := #[{ on := 21, ground := Ground.data }], guard := none }) rfl (fun K hK => ?_) ?_
                ·
                  go_simp
                  refine hK.out _ _ (by (first | assumption | exact (HSF.out _ HBD.out).1 | exact (HSF.out _ (below_alloc HB4.out _)).1 | exact HSS.out _ _ hS5 | go_keep)) (fun hHeld => ?_)
                  (try simp only [Act.put, List.setIfInBounds_toArray, List.set_cons_zero, List.set_cons_succ])
                  refine wpAnyH_ready (rs := [23]) (by kernel_rfl) (by simp) ?_
                  refine AllReadyH.cons (o := { dst := some 39, op := Op.call { callee := Callee.builtin Builtin.append, args := #[Operand.tmp 16, Operand.tmp 38], argTypes := #[49, 49] }, type := 49, pos := "orders.go:214", after := #[{ on := 0, ground := Ground.data }, { on := 22, ground := Ground.data }, { on := 20, ground := Ground.chain }], guard := none }) rfl (fun K hK => ?_) ?_
                  ·
                    (refine step_append_lies _ rfl _ _ 49 rfl w2.heap.size 31 i0 (.agg #[.slice none 0 0, .slice none 0 0, .int .i64 0, .int .i64 0]) 4 64 Tryz.underlying49 HI.out.1 HI.out.2.1 HI.out.2.2.1 HI.out.2.2.2 rfl (by decide) _ _ _ rfl (World.ownsRow.alloc HR4.out _) ⟨z4.heap.size, 0, none⟩ 1 1 [.slice (some ⟨q1, 0, none⟩) p.2.la.length r1, .slice (some ⟨q2, 0, none⟩) p.2.lb.length r2, .int .i64 p.2.s, .int .i64 p.2.e] rfl rfl ?hnews (by simp [Value.oneCell']) (by decide) (by have := HYL.out; unfold maxLen; omega) (by have := HYL.out; omega) ?hbase _ rfl ?_; (case hnews => (intro j uu hj; rw [addr_add]; rcases j with _ | _ | _ | _ | j; (cases hj; simp [go_sem]); (cases hj; simp [go_sem]); (cases hj; simp [go_sem]); (cases hj; simp [go_sem]); (simp at hj))); (case hbase => (have h1 := HW2.out; have h2 := HZ4.out; simp; omega)); intro g5 cap5 z5 hown5 hg5 hat5 hlt5; have HX5 := Aside0.mk (And.intro hown5 hg5); have hS5 := (HFAR.out _ _ _ (HSF.out _ (below_alloc HB4.out _)).1 hg5 HR4.out (by have h1 := HPL.out; have h2 := HZ4.out; have h3 := HW2.out; simp; omega)); have x5 := (hg5.cell_far ⟨n + 1, 0, none⟩ (by have h1 := HNW.out; have h2 := HZ4.out; simp; omega) (HNE1.out _ HR4.out)).trans (HSF.out _ (below_alloc HB4.out _)).2.1; have t5 := (hg5.frozen_far ⟨n + 1, 0, none⟩ (by have h1 := HNW.out; have h2 := HZ4.out; simp; omega) (HNE1.out _ HR4.out)).trans (HSF.out _ (below_alloc HB4.out _)).2.2; clear hown5 hg5)
                    refine hK.out _ _ (by (first | assumption | exact (HSF.out _ HBD.out).1 | exact (HSF.out _ (below_alloc HB4.out _)).1 | exact HSS.out _ _ hS5 | go_keep)) (fun hHeld => ?_)
                    (try simp only [Act.put, List.setIfInBounds_toArray, List.set_cons_zero, List.set_cons_succ])
                    refine wpAnyH_ready (rs := [24]) (by kernel_rfl) (by simp) ?_
                    refine AllReadyH.cons (o := { dst := none, op := Op.store 49 (Operand.tmp 1) (Operand.tmp 39), type := 0, pos := "orders.go:214", after := #[{ on := 23, ground := Ground.data }, { on := 23, ground := Ground.chain }, { on := 0, ground := Ground.phase }, { on := 1, ground := Ground.phase }, { on := 2, ground := Ground.phase }, { on := 3, ground := Ground.phase }, { on := 4, ground := Ground.phase }, { on := 5, ground := Ground.phase }, { on := 6, ground := Ground.phase }, { on := 7, ground := Ground.phase }, { on := 8, ground := Ground.phase }, { on := 9, ground := Ground.phase }, { on := 10, ground := Ground.phase }, { on := 11, ground := Ground.phase }, { on := 12, ground := Ground.phase }, { on := 13, ground := Ground.phase }, { on := 14, ground := Ground.phase }, { on := 15, ground := Ground.phase }, { on := 16, ground := Ground.phase }, { on := 17, ground := Ground.phase }, { on := 18, ground := Ground.phase }, { on := 19, ground := Ground.phase }, { on := 20, ground := Ground.phase }, { on := 21, ground := Ground.phase }, { on := 22, ground := Ground.phase }, { on := 23, ground := Ground.phase }], guard := none }) rfl (fun K hK => ?_) ?_
                    ·
                      go_simp
                      refine hK.out _ _ (by (first | assumption | exact (HSF.out _ HBD.out).1 | exact (HSF.out _ (below_alloc HB4.out _)).1 | exact HSS.out _ _ hS5 | go_keep)) (fun hHeld => ?_)
                      (try simp only [Act.put, List.setIfInBounds_toArray, List.set_cons_zero, List.set_cons_succ])
                      refine wpAnyH_done (by kernel_rfl) ?_ _
                      refine NoPanic.normal ?_
                      have HXT := Aside0.mk (And.intro x5 t5)
                      clear x5 t5
                      have hl2 := HL2.out
                      go_wp2_with fail
                      go_roundg g1
                      case measure => omega
                      case rel =>
                        obtain ⟨hown, hg5⟩ := HX5.out
                        have hbw := below_alloc HB4.out (Obj.cells #[Value.slice (some ⟨q1, 0, none⟩) p.2.la.length r1, Value.slice (some ⟨q2, 0, none⟩) p.2.lb.length r2, Value.int IntKind.i64 p.2.s, Value.int IntKind.i64 p.2.e] 31)
                        have hrow : RowD z5 w2.heap.size (.slice (some ⟨g5, 0, none⟩) (ys.length + 1) cap5) (ys ++ [AlD.mk (some ⟨q1, 0, none⟩) r1 p.2.la (some ⟨q2, 0, none⟩) r2 p.2.lb p.2.s p.2.e]) := by
                          unfold RowD
                          rw [List.length_append, cellsD_append]
                          exact hown
                        have hr4 := own_next HRD.out hbw
                        have hn := HN.out
                        have hw2 := HW2.out
                        have hwz := HB2.out.size
                        have hrl : ∀ k, (Value.slice a5 ys.length c5).ownBlock = some k → w2.heap.size ≤ k ∧ k < wr.heap.size := World.ownsRow.lt HRD.out
                        have hne1 : ∀ k, w2.heap.size ≤ k → some k ≠ some (⟨n + 1, 0, none⟩ : Addr).block := fun k hk e => by have := Option.some.inj e; simp at this; omega
                        have hne2 : ∀ k, k < w2.heap.size → some k ≠ (Value.slice a5 ys.length c5).ownBlock := fun k hk e => by have := (hrl k e.symm).1; omega
                        have hg6 := grownBy_setCell z5 ⟨n + 1, 0, none⟩ (.slice (some ⟨g5, 0, none⟩) (ys.length + 1) cap5)
                        have hs5 := hg5.size
                        have hsb := hbw.size
                        refine ⟨i + 1, ys ++ [AlD.mk (some ⟨q1, 0, none⟩) r1 p.2.la (some ⟨q2, 0, none⟩) r2 p.2.lb p.2.s p.2.e], _, by go_num, by omega, by omega, ⟨World.cell?_setCell_same _ _ _ HXT.out.1, by rw [World.frozen?_setCell]; exact HXT.out.2⟩, ⟨World.ownsRow.kept hrow hg6 (Or.inr fun e => hne1 _ (World.ownsRow.lt hrow _ rfl).1 e)⟩, ⟨?_⟩, ⟨?_⟩, ⟨?_⟩, ⟨?_⟩, ⟨?_⟩, ⟨?_⟩⟩
                        · intro y hy
                          rcases List.mem_append.1 hy with hy | hy
                          · obtain ⟨o1, o2, gg, o3, o4⟩ := HOW.out y hy
                            refine ⟨o1, ?_, gg, o3, o4⟩
                            rw [o3] at o2 ⊢
                            have o5 := o2.next hbw
                            rcases o5.or_ne (RowD.first hr4 (List.length_pos_of_mem hy)) with o6 | o6
                            · rw [o6]; exact .inl rfl
                            · exact (o5.kept hg5 o6).kept hg6 (hne1 _ o4)
                          · rw [List.mem_singleton] at hy
                            subst hy
                            refine ⟨HGP.out.2.2.1, ?_, q1, rfl, Nat.le_trans hw2 HL1.out.2⟩
                            exact ((Labs.next HL14.out (below_alloc (Below.refl _ _) _)).kept hg5 (fun e => by have := (hrl _ e.symm).2; have := HL1.out.2; have h9 : wr.heap.size ≤ q1 := HL1.out.2; omega)).kept hg6 (hne1 _ (Nat.le_trans hw2 HL1.out.2))
                        · rw [List.map_append, HKY.out, List.take_succ_eq_append_getElem hlt, List.map_append, HPP.out]
                          rfl
                        · exact ((HA3.out.next hbw).far hg5 (fun p' hp' => hne2 _ (HPG.out p' hp').2) (fun b n l hm => own_ne_map hr4 hm)).far hg6 (fun p' hp' e => by have h6 : p'.1 = n + 1 := Option.some.inj e; have h7 := (HPG.out p' hp').1; omega) (fun b n' l hm => map_ne_cell hm HXT.out.1)
                        · exact World.ownsRow.kept (World.ownsRow.kept (own_next HR3.out hbw) hg5 (Or.inr (hne2 _ HGLT.out.2))) hg6 (Or.inr fun e => by have h6 : n + 1 = g := Option.some.inj (by first | exact e | exact e.symm); have h7 := HGLT.out.1; omega)
                        · exact gb_grown (gb_grown (gb_below HGB.out hbw) hg5 (fun k hk => .inl (Nat.le_trans hwz (hrl k hk).1))) hg6 (fun k hk => .inr (Option.some.inj hk).symm)
                        · simp [World.setCell]
                          omega
                    exact AllReadyH.nil
                  exact AllReadyH.nil
                exact AllReadyH.nil
              refine AllReadyH.cons (o := { dst := some 38, op := Op.buildSlice 49 1 #[(0, Operand.tmp 37)], type := 49, pos := "orders.go:214", after := #[{ on := 21, ground := Ground.data }], guard := none }) rfl (fun K hK => ?_) ?_
              ·
                go_simp
                refine hK.out _ _ (by (first | assumption | exact (HSF.out _ HBD.out).1 | exact (HSF.out _ (below_alloc HB4.out _)).1 | exact HSS.out _ _ hS5 | go_keep)) (fun hHeld => ?_)
                (try simp only [Act.put, List.setIfInBounds_toArray, List.set_cons_zero, List.set_cons_succ])
                refine wpAnyH_ready (rs := [0]) (by kernel_rfl) (by simp) ?_
                refine AllReadyH.cons (o := { dst := some 16, op := Op.load 49 (Operand.tmp 1), type := 49, pos := "orders.go:214", after := #[], guard := none }) rfl (fun K hK => ?_) ?_
                ·
                  go_simp
                  refine hK.out _ _ (by (first | assumption | exact (HSF.out _ HBD.out).1 | exact (HSF.out _ (below_alloc HB4.out _)).1 | exact HSS.out _ _ hS5 | go_keep)) (fun hHeld => ?_)
                  (try simp only [Act.put, List.setIfInBounds_toArray, List.set_cons_zero, List.set_cons_succ])
                  refine wpAnyH_ready (rs := [23]) (by kernel_rfl) (by simp) ?_
                  refine AllReadyH.cons (o := { dst := some 39, op := Op.call { callee := Callee.builtin Builtin.append, args := #[Operand.tmp 16, Operand.tmp 38], argTypes := #[49, 49] }, type := 49, pos := "orders.go:214", after := #[{ on := 0, ground := Ground.data }, { on := 22, ground := Ground.data }, { on := 20, ground := Ground.chain }], guard := none }) rfl (fun K hK => ?_) ?_
                  ·
                    (refine step_append_lies _ rfl _ _ 49 rfl w2.heap.size 31 i0 (.agg #[.slice none 0 0, .slice none 0 0, .int .i64 0, .int .i64 0]) 4 64 Tryz.underlying49 HI.out.1 HI.out.2.1 HI.out.2.2.1 HI.out.2.2.2 rfl (by decide) _ _ _ rfl (World.ownsRow.alloc HR4.out _) ⟨z4.heap.size, 0, none⟩ 1 1 [.slice (some ⟨q1, 0, none⟩) p.2.la.length r1, .slice (some ⟨q2, 0, none⟩) p.2.lb.length r2, .int .i64 p.2.s, .int .i64 p.2.e] rfl rfl ?hnews (by simp [Value.oneCell']) (by decide) (by have := HYL.out; unfold maxLen; omega) (by have := HYL.out; omega) ?hbase _ rfl ?_; (case hnews => (intro j uu hj; rw [addr_add]; rcases j with _ | _ | _ | _ | j; (cases hj; simp [go_sem]); (cases hj; simp [go_sem]); (cases hj; simp [go_sem]); (cases hj; simp [go_sem]); (simp at hj))); (case hbase => (have h1 := HW2.out; have h2 := HZ4.out; simp; omega)); intro g5 cap5 z5 hown5 hg5 hat5 hlt5; have HX5 := Aside0.mk (And.intro hown5 hg5); have hS5 := (HFAR.out _ _ _ (HSF.out _ (below_alloc HB4.out _)).1 hg5 HR4.out (by have h1 := HPL.out; have h2 := HZ4.out; have h3 := HW2.out; simp; omega)); have x5 := (hg5.cell_far ⟨n + 1, 0, none⟩ (by have h1 := HNW.out; have h2 := HZ4.out; simp; omega) (HNE1.out _ HR4.out)).trans (HSF.out _ (below_alloc HB4.out _)).2.1; have t5 := (hg5.frozen_far ⟨n + 1, 0, none⟩ (by have h1 := HNW.out; have h2 := HZ4.out; simp; omega) (HNE1.out _ HR4.out)).trans (HSF.out _ (below_alloc HB4.out _)).2.2; clear hown5 hg5)
                    refine hK.out _ _ (by (first | assumption | exact (HSF.out _ HBD.out).1 | exact (HSF.out _ (below_alloc HB4.out _)).1 | exact HSS.out _ _ hS5 | go_keep)) (fun hHeld => ?_)
                    (try simp only [Act.put, List.setIfInBounds_toArray, List.set_cons_zero, List.set_cons_succ])
                    refine wpAnyH_ready (rs := [24]) (by kernel_rfl) (by simp) ?_
                    refine AllReadyH.cons (o := { dst := none, op := Op.store 49 (Operand.tmp 1) (Operand.tmp 39), type := 0, pos := "orders.go:214", after := #[{ on := 23, ground := Ground.data }, { on := 23, ground := Ground.chain }, { on := 0, ground := Ground.phase }, { on := 1, ground := Ground.phase }, { on := 2, ground := Ground.phase }, { on := 3, ground := Ground.phase }, { on := 4, ground := Ground.phase }, { on := 5, ground := Ground.phase }, { on := 6, ground := Ground.phase }, { on := 7, ground := Ground.phase }, { on := 8, ground := Ground.phase }, { on := 9, ground := Ground.phase }, { on := 10, ground := Ground.phase }, { on := 11, ground := Ground.phase }, { on := 12, ground := Ground.phase }, { on := 13, ground := Ground.phase }, { on := 14, ground := Ground.phase }, { on := 15, ground := Ground.phase }, { on := 16, ground := Ground.phase }, { on := 17, ground := Ground.phase }, { on := 18, ground := Ground.phase }, { on := 19, ground := Ground.phase }, { on := 20, ground := Ground.phase }, { on := 21, ground := Ground.phase }, { on := 22, ground := Ground.phase }, { on := 23, ground := Ground.phase }], guard := none }) rfl (fun K hK => ?_) ?_
                    ·
                      go_simp
                      refine hK.out _ _ (by (first | assumption | exact (HSF.out _ HBD.out).1 | exact (HSF.out _ (below_alloc HB4.out _)).1 | exact HSS.out _ _ hS5 | go_keep)) (fun hHeld => ?_)
                      (try simp only [Act.put, List.setIfInBounds_toArray, List.set_cons_zero, List.set_cons_succ])
                      refine wpAnyH_done (by kernel_rfl) ?_ _
                      refine NoPanic.normal ?_
                      have HXT := Aside0.mk (And.intro x5 t5)
                      clear x5 t5
                      have hl2 := HL2.out
                      go_wp2_with fail
                      go_roundg g1
                      case measure => omega
                      case rel =>
                        obtain ⟨hown, hg5⟩ := HX5.out
                        have hbw := below_alloc HB4.out (Obj.cells #[Value.slice (some ⟨q1, 0, none⟩) p.2.la.length r1, Value.slice (some ⟨q2, 0, none⟩) p.2.lb.length r2, Value.int IntKind.i64 p.2.s, Value.int IntKind.i64 p.2.e] 31)
                        have hrow : RowD z5 w2.heap.size (.slice (some ⟨g5, 0, none⟩) (ys.length + 1) cap5) (ys ++ [AlD.mk (some ⟨q1, 0, none⟩) r1 p.2.la (some ⟨q2, 0, none⟩) r2 p.2.lb p.2.s p.2.e]) := by
                          unfold RowD
                          rw [List.length_append, cellsD_append]
                          exact hown
                        have hr4 := own_next HRD.out hbw
                        have hn := HN.out
                        have hw2 := HW2.out
                        have hwz := HB2.out.size
                        have hrl : ∀ k, (Value.slice a5 ys.length c5).ownBlock = some k → w2.heap.size ≤ k ∧ k < wr.heap.size := World.ownsRow.lt HRD.out
                        have hne1 : ∀ k, w2.heap.size ≤ k → some k ≠ some (⟨n + 1, 0, none⟩ : Addr).block := fun k hk e => by have := Option.some.inj e; simp at this; omega
                        have hne2 : ∀ k, k < w2.heap.size → some k ≠ (Value.slice a5 ys.length c5).ownBlock := fun k hk e => by have := (hrl k e.symm).1; omega
                        have hg6 := grownBy_setCell z5 ⟨n + 1, 0, none⟩ (.slice (some ⟨g5, 0, none⟩) (ys.length + 1) cap5)
                        have hs5 := hg5.size
                        have hsb := hbw.size
                        refine ⟨i + 1, ys ++ [AlD.mk (some ⟨q1, 0, none⟩) r1 p.2.la (some ⟨q2, 0, none⟩) r2 p.2.lb p.2.s p.2.e], _, by go_num, by omega, by omega, ⟨World.cell?_setCell_same _ _ _ HXT.out.1, by rw [World.frozen?_setCell]; exact HXT.out.2⟩, ⟨World.ownsRow.kept hrow hg6 (Or.inr fun e => hne1 _ (World.ownsRow.lt hrow _ rfl).1 e)⟩, ⟨?_⟩, ⟨?_⟩, ⟨?_⟩, ⟨?_⟩, ⟨?_⟩, ⟨?_⟩⟩
                        · intro y hy
                          rcases List.mem_append.1 hy with hy | hy
                          · obtain ⟨o1, o2, gg, o3, o4⟩ := HOW.out y hy
                            refine ⟨o1, ?_, gg, o3, o4⟩
                            rw [o3] at o2 ⊢
                            have o5 := o2.next hbw
                            rcases o5.or_ne (RowD.first hr4 (List.length_pos_of_mem hy)) with o6 | o6
                            · rw [o6]; exact .inl rfl
                            · exact (o5.kept hg5 o6).kept hg6 (hne1 _ o4)
                          · rw [List.mem_singleton] at hy
                            subst hy
                            refine ⟨HGP.out.2.2.1, ?_, q1, rfl, Nat.le_trans hw2 HL1.out.2⟩
                            exact ((Labs.next HL14.out (below_alloc (Below.refl _ _) _)).kept hg5 (fun e => by have := (hrl _ e.symm).2; have := HL1.out.2; have h9 : wr.heap.size ≤ q1 := HL1.out.2; omega)).kept hg6 (hne1 _ (Nat.le_trans hw2 HL1.out.2))
                        · rw [List.map_append, HKY.out, List.take_succ_eq_append_getElem hlt, List.map_append, HPP.out]
                          rfl
                        · exact ((HA3.out.next hbw).far hg5 (fun p' hp' => hne2 _ (HPG.out p' hp').2) (fun b n l hm => own_ne_map hr4 hm)).far hg6 (fun p' hp' e => by have h6 : p'.1 = n + 1 := Option.some.inj e; have h7 := (HPG.out p' hp').1; omega) (fun b n' l hm => map_ne_cell hm HXT.out.1)
                        · exact World.ownsRow.kept (World.ownsRow.kept (own_next HR3.out hbw) hg5 (Or.inr (hne2 _ HGLT.out.2))) hg6 (Or.inr fun e => by have h6 : n + 1 = g := Option.some.inj (by first | exact e | exact e.symm); have h7 := HGLT.out.1; omega)
                        · exact gb_grown (gb_grown (gb_below HGB.out hbw) hg5 (fun k hk => .inl (Nat.le_trans hwz (hrl k hk).1))) hg6 (fun k hk => .inr (Option.some.inj hk).symm)
                        · simp [World.setCell]
                          omega
                    exact AllReadyH.nil
                  exact AllReadyH.nil
                exact AllReadyH.nil
              exact AllReadyH.nil
            exact AllReadyH.nil
          exact AllReadyH.nil
        exact AllReadyH.nil
      exact AllReadyH.nil
    · have HE := Aside0.mk (show i = P2.length by omega)
      clear hig hile
      go_wp2_with fail
      go_end0
      refine ⟨rfl, ys, P2, u, HU.out.1, HU.out.2, own_mono HRD.out HB2.out.size, fun y hy => by obtain ⟨o1, o2, gg, o3, o4⟩ := HOW.out y hy; exact ⟨o1, o2, gg, o3, Nat.le_trans HB2.out.size o4⟩, by rw [HKY.out, HE.out, List.take_length], HPM.out, HUP.out, HGB.out⟩
end Go.Proofs.YtobbfenkdnaanaaGreatDoor
