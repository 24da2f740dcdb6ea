/- impl.alerts, by contract. -/
import Derived.Test.YtobbfenkdnaanaaGreatDoorAsA
import Derived.Deep.RegionHeld3
import Derived.Deep.AppendLies
set_option linter.unusedVariables false
set_option linter.unusedSimpArgs false
namespace Go.Proofs.YtobbfenkdnaanaaGreatDoor
open Go.RowKit Go.Maps Go.WideMaps Go.Sort

/-- An alert as the law has it. -/
structure AlD where
  a : Option Addr
  cap : Nat
  la : LL
  a' : Option Addr
  cap' : Nat
  lb : LL
  s : Int
  e : Int
def AlD.val (x : AlD) : Value := .agg #[.slice x.a x.la.length x.cap, .slice x.a' x.lb.length x.cap', .int .i64 x.s, .int .i64 x.e]
/-- The law's list of alerts, in memory. -/
def AlsIn (w : World) (a : Option Addr) (xs : List AlD) : Prop :=
  xs = [] ∨ ∃ b off, a = some ⟨b, off, none⟩ ∧ b < w.heap.size ∧ ∀ i (h : i < xs.length), w.cell? ⟨b, off + i * 4, none⟩ = some (.slice (xs[i]'h).a (xs[i]'h).la.length (xs[i]'h).cap) ∧ w.cell? ⟨b, off + i * 4 + 1, none⟩ = some (.slice (xs[i]'h).a' (xs[i]'h).lb.length (xs[i]'h).cap') ∧
    w.cell? ⟨b, off + i * 4 + 2, none⟩ = some (.int .i64 (xs[i]'h).s) ∧ w.cell? ⟨b, off + i * 4 + 3, none⟩ = some (.int .i64 (xs[i]'h).e) ∧ Labs w (xs[i]'h).a (xs[i]'h).la ∧ Labs w (xs[i]'h).a' (xs[i]'h).lb
theorem AlsIn.next {w w' : World} {a : Option Addr} {xs : List AlD} (h : AlsIn w a xs) (hb : Below w.heap.size w w') : AlsIn w' a xs := by
  rcases h with h | ⟨b, off, ha, hlt, hc⟩
  · exact .inl h
  · refine .inr ⟨b, off, ha, Nat.lt_of_lt_of_le hlt hb.size, fun i hi => ?_⟩
    obtain ⟨h0, h1, h2, h3, h4, h5⟩ := hc i hi
    exact ⟨(hb.cell (p := ⟨b, off + i * 4, none⟩) hlt).trans h0, (hb.cell (p := ⟨b, off + i * 4 + 1, none⟩) hlt).trans h1, (hb.cell (p := ⟨b, off + i * 4 + 2, none⟩) hlt).trans h2, (hb.cell (p := ⟨b, off + i * 4 + 3, none⟩) hlt).trans h3, h4.next hb, h5.next hb⟩
/-- What the law lets in. -/
def Good (x : AlD) : Prop := Sized x.la ∧ Rise x.la ∧ x.lb = [] ∧ 0 ≤ x.s ∧ x.s ≤ 8589934592 ∧ 0 ≤ x.e ∧ x.e ≤ 8589934592
/-- The package's alerts, in memory. -/
def AlsAt (w : World) (P : List (Nat × AlD)) : Prop := ∀ p ∈ P, ∃ b1 b2, AlertAt w p.1 b1 b2 (momS p.2.s) (momS p.2.e) ∧ MapIs w b1 20 p.2.la ∧ MapIs w b2 20 p.2.lb
theorem AlsAt.next {w w' : World} {P : List (Nat × AlD)} (h : AlsAt w P) (hb : Below w.heap.size w w') : AlsAt w' P := fun p hp => by
  obtain ⟨b1, b2, h0, h1, h2⟩ := h p hp
  exact ⟨b1, b2, h0.next hb, h1.next hb, h2.next hb⟩
def ptrs (P : List (Nat × AlD)) : List Value := P.map fun p => .pointer (some ⟨p.1, 0, none⟩)
/-- The call's own row of pointers. -/
def RowP (w : World) (base : Nat) (v : Value) (P : List (Nat × AlD)) : Prop := w.ownsRow base 83 1 v P.length (ptrs P)
theorem RowP.next {w w' : World} {base : Nat} {v : Value} {P : List (Nat × AlD)} (h : RowP w base v P) (hb : Below w.heap.size w w') : RowP w' base v P := by
  obtain ⟨h1, h2⟩ := h
  refine ⟨h1, h2.imp id ?_⟩
  rintro ⟨g, cap, cur, hv, hbase, hg, h3, h4, h5, h6⟩
  exact ⟨g, cap, cur, hv, hbase, (hb.block g (Array.getElem?_eq_some_iff.1 hg).1).trans hg, h3, h4, h5, h6⟩
theorem own_ne_map {w : World} {base : Nat} {e : TypeId} {k : Nat} {v : Value} {m : Nat} {xs : List Value} {b n : Nat} {l' : LL} (h : w.ownsRow base e k v m xs) (hm : MapIs w b n l') : some b ≠ v.ownBlock := by
  rcases h.2 with ⟨hnil, _⟩ | ⟨g, cap, cur, hv, hbase, hb, _⟩
  · rw [hnil]; simp [Value.ownBlock]
  · obtain ⟨D, ⟨es, clock, hh, _⟩, _⟩ := hm
    rw [hv]
    intro e
    have e' : b = g := Option.some.inj e
    rw [e', hb] at hh
    cases hh
theorem AlertAt.kept {w w' : World} {y b1 b2 : Nat} {s e : Int} {row : Option Nat} (h : AlertAt w y b1 b2 s e) (hg : w.grownBy w' row) (hne : some y ≠ row) : AlertAt w' y b1 b2 s e := by
  obtain ⟨hl, h0, h1, h2, h3, h4, h5⟩ := h
  exact ⟨Nat.lt_of_lt_of_le hl hg.size, (hg.cell_far ⟨y, 0, none⟩ hl hne).trans h0, (hg.cell_far ⟨y, 1, none⟩ hl hne).trans h1, (hg.cell_far ⟨y, 2, none⟩ hl hne).trans h2, (hg.cell_far ⟨y, 3, none⟩ hl hne).trans h3, (hg.cell_far ⟨y, 4, none⟩ hl hne).trans h4, (hg.cell_far ⟨y, 5, none⟩ hl hne).trans h5⟩
theorem RowP.cell {w : World} {base g c n : Nat} {P : List (Nat × AlD)} (h : RowP w base (.slice (some ⟨g, 0, none⟩) n c) P) (j : Nat) (hj : j < P.length) : w.cell? ⟨g, j, none⟩ = some (.pointer (some ⟨(P[j]'hj).1, 0, none⟩)) := by
  have hn : n = P.length := by
    rcases h.2 with ⟨h0, _⟩ | ⟨g', cap', cur, hv, _⟩
    · cases h0
    · cases hv; rfl
  subst hn
  have h' : w.ownsRow base 83 1 (.slice (some ⟨g, 0, none⟩) P.length c) P.length (ptrs P) := h
  rw [h'.cellAt j (by omega)]
  unfold ptrs
  rw [List.getElem?_map, List.getElem?_eq_getElem hj]
  rfl
theorem RowP.ne_alert {w : World} {base : Nat} {v : Value} {P : List (Nat × AlD)} (h : RowP w base v P) {y b1 b2 : Nat} {s e : Int} (ha : AlertAt w y b1 b2 s e) (hp : 0 < P.length) : some y ≠ v.ownBlock := by
  rcases h.2 with ⟨hnil, hz⟩ | ⟨g, cap, cur, hv, _⟩
  · omega
  · subst hv
    intro e
    have e' : y = g := Option.some.inj e
    have h0 := h.cell 0 hp
    rw [← e', ha.2.1] at h0
    cases h0
theorem AlsAt.kept {w w' : World} {base : Nat} {v : Value} {P : List (Nat × AlD)} (h : AlsAt w P) (hr : RowP w base v P) (hg : w.grownBy w' v.ownBlock) : AlsAt w' P := fun p hp => by
  obtain ⟨b1, b2, h0, h1, h2⟩ := h p hp
  exact ⟨b1, b2, h0.kept hg (hr.ne_alert h0 (List.length_pos_of_mem hp)), h1.kept hg (own_ne_map hr h1), h2.kept hg (own_ne_map hr h2)⟩
theorem info83 : (Tryz.prog.info? 83).map (fun i => (i.zero, i.size, i.bytes)) = some (some (.pointer none), 1, 8) := by kernel_rfl

set_option maxHeartbeats 2000000 in
set_option maxRecDepth 100000 in
theorem alerts_calls (a : Option Addr) (cap : Nat) (xs : List AlD) (w : World) (hx : AlsIn w a xs) (hg : ∀ x ∈ xs, Good x) (h8 : xs.length ≤ 8) :
    Calls Tryz.prog 84 #[.slice a xs.length cap] w fun e w' => ∃ v P, e = .returned v ∧ P.map Prod.snd = xs ∧ RowP w' w.heap.size v P ∧ AlsAt w' P ∧ (∀ p ∈ P, w.heap.size ≤ p.1) ∧ Below w.heap.size w w' := by
  have HX := Aside0.mk hx
  have HGD := Aside0.mk hg
  obtain ⟨i0, hi, hz0, hz1, hz2⟩ := info_parts info83
  have HI := Aside0.mk (And.intro hi (And.intro hz0 (And.intro hz1 hz2)))
  clear hx hg hi hz0 hz1 hz2
  go_enter Tryz.func84, Tryz.ntmps84
  go_wp2_with fail
  go_loopg [3, 8] (xs.length + 1) (fun g v3 v8 w' => ∃ (i : Nat) (P : List (Nat × AlD)), v8 = .int .i64 (i : Int) ∧ i + g = xs.length + 1 ∧ i ≤ xs.length ∧ Aside0 (P.map Prod.snd = xs.take i) ∧ Aside0 (RowP w' w.heap.size v3 P) ∧ Aside0 (AlsAt w' P) ∧ Aside0 (∀ p ∈ P, w.heap.size ≤ p.1) ∧ Aside0 (Below w.heap.size w w'))
  case atStart => exact ⟨0, [], rfl, by omega, by omega, ⟨by simp⟩, ⟨World.ownsRow_nil _ _ _ _⟩, ⟨fun p hp => by cases hp⟩, ⟨fun p hp => by cases hp⟩, ⟨Below.refl _ _⟩⟩
  case round =>
    obtain ⟨i, P, rfl, hig, hile, HP, HR, HA, HGE, HBW⟩ := hrel
    by_cases hlt : i < xs.length
    · obtain ⟨g1, rfl⟩ : ∃ m, gk = m + 1 := ⟨gk - 1, by omega⟩
      rcases HX.out.next HBW.out with h | ⟨b, off, ha, hblt, hc⟩
      · rw [h] at hlt; simp at hlt
      subst ha
      obtain ⟨c0, c1, c2, c3, hla, hlb⟩ := hc i hlt
      obtain ⟨x, hxx⟩ : ∃ x, xs[i]'hlt = x := ⟨_, rfl⟩
      rw [hxx] at c0 c1 c2 c3 hla hlb
      have hgd := HGD.out x (by rw [← hxx]; exact List.getElem_mem hlt)
      have HXX := Aside0.mk hxx
      have HKX := Aside0.mk (show ∀ w', Below (wr.alloc (Obj.cells #[Value.slice x.a x.la.length x.cap, Value.slice x.a' x.lb.length x.cap', Value.int IntKind.i64 x.s, Value.int IntKind.i64 x.e] 31)).heap.size (wr.alloc (Obj.cells #[Value.slice x.a x.la.length x.cap, Value.slice x.a' x.lb.length x.cap', Value.int IntKind.i64 x.s, Value.int IntKind.i64 x.e] 31)) w' → (fun w' : World => w'.cell? ⟨wr.heap.size, 0, none⟩ = some (.slice x.a x.la.length x.cap) ∧ w'.cell? ⟨wr.heap.size, 1, none⟩ = some (.slice x.a' x.lb.length x.cap') ∧ w'.cell? ⟨wr.heap.size, 2, none⟩ = some (.int .i64 x.s) ∧ w'.cell? ⟨wr.heap.size, 3, none⟩ = some (.int .i64 x.e)) w' from fun w' hb =>
        ⟨(hb.cell (p := ⟨wr.heap.size, 0, none⟩) (by simp)).trans (by simp [go_sem]), (hb.cell (p := ⟨wr.heap.size, 1, none⟩) (by simp)).trans (by simp [go_sem]), (hb.cell (p := ⟨wr.heap.size, 2, none⟩) (by simp)).trans (by simp [go_sem]), (hb.cell (p := ⟨wr.heap.size, 3, none⟩) (by simp)).trans (by simp [go_sem])⟩)
      have HBX := Aside0.mk (below_alloc (Below.refl wr.heap.size wr) (Obj.cells #[Value.slice x.a x.la.length x.cap, Value.slice x.a' x.lb.length x.cap', Value.int IntKind.i64 x.s, Value.int IntKind.i64 x.e] 31))
      have HLA := Aside0.mk (And.intro (hla.next HBX.out) (hlb.next HBX.out))
      have HGX := Aside0.mk hgd
      have HNE := Aside0.mk (show some wr.heap.size ≠ u3.ownBlock from fun e => by have := (World.ownsRow.lt HR.out _ e.symm).2; omega)
      have HPL := Aside0.mk (show P.length ≤ 8 by have h1 := congrArg List.length HP.out; rw [List.length_map, List.length_take] at h1; omega)
      clear hc hxx hgd hla hlb hblt
      go_wp2_with fail
      have hbd := (Below.refl (wr.alloc (Obj.cells #[Value.slice x.a x.la.length x.cap, Value.slice x.a' x.lb.length x.cap', Value.int IntKind.i64 x.s, Value.int IntKind.i64 x.e] 31)).heap.size (wr.alloc (Obj.cells #[Value.slice x.a x.la.length x.cap, Value.slice x.a' x.lb.length x.cap', Value.int IntKind.i64 x.s, Value.int IntKind.i64 x.e] 31))).drew
      have HBD := Aside0.mk hbd
      clear hbd
      go_region_held3 (fun w' : World => w'.cell? ⟨wr.heap.size, 0, none⟩ = some (.slice x.a x.la.length x.cap) ∧ w'.cell? ⟨wr.heap.size, 1, none⟩ = some (.slice x.a' x.lb.length x.cap') ∧ w'.cell? ⟨wr.heap.size, 2, none⟩ = some (.int .i64 x.s) ∧ w'.cell? ⟨wr.heap.size, 3, none⟩ = some (.int .i64 x.e)) (first | assumption | (refine HKX.out _ ?_; with_reducible first | exact HBD.out | exact below_alloc HB4.out _ | exact below_alloc (below_alloc HB4.out _) _)) (first
        | (go_at_call_of 50 (Value.slice x.a x.la.length x.cap); refine Calls.mono (set_calls x.a x.cap x.la _ (HLA.out.1.next HBD.out) (once_of_rise HGX.out.2.1) HGX.out.1) ?_; rintro e w1 ⟨b1, rfl, hle1, hm1, hbl1⟩; have HB1 := Aside0.mk (below_step HBD.out hbl1); have HM1 := Aside0.mk hm1; have hS1 := HKX.out _ HB1.out; clear hle1 hm1 hbl1)
        | (go_at_call_of 50 (Value.slice x.a' x.lb.length x.cap'); refine Calls.mono (set_calls x.a' x.cap' x.lb _ (HLA.out.2.next HB1.out) (by rw [HGX.out.2.2.1]; exact List.nodup_nil) (by rw [HGX.out.2.2.1]; exact ⟨by simp, fun p hp => by cases hp⟩)) ?_; rintro e w2 ⟨b2, rfl, hle2, hm2, hbl2⟩; have HB2 := Aside0.mk (below_step HB1.out hbl2); have HM2 := Aside0.mk hm2; have HM12 := Aside0.mk (HM1.out.next hbl2); have hS2 := HKX.out _ HB2.out; clear hle2 hm2 hbl2)
        | (go_at_call_of 58 (Value.int IntKind.i64 x.s); refine Calls.mono (moment_calls x.s HGX.out.2.2.2.1 HGX.out.2.2.2.2.1 _) ?_; rintro e w3 ⟨rfl, hbl3⟩; have HB3 := Aside0.mk (below_step HB2.out hbl3); have HM13 := Aside0.mk (HM12.out.next hbl3); have HM23 := Aside0.mk (HM2.out.next hbl3); have hS3 := HKX.out _ HB3.out; clear hbl3)
        | (go_at_call_of 58 (Value.int IntKind.i64 x.e); refine Calls.mono (moment_calls x.e HGX.out.2.2.2.2.2.1 HGX.out.2.2.2.2.2.2 _) ?_; rintro e w4 ⟨rfl, hbl4⟩; have HB4 := Aside0.mk (below_step HB3.out hbl4); have HM14 := Aside0.mk (HM13.out.next hbl4); have HM24 := Aside0.mk (HM23.out.next hbl4); have hS4 := HKX.out _ HB4.out; have HR4 := Aside0.mk ((HR.out.next HBX.out).next HB4.out); have HLW := Aside0.mk (show wr.heap.size < ((w4.alloc (Obj.cells #[Value.map (some b1), Value.map (some b2), Value.int IntKind.i64 (momS x.s), Value.int IntKind.i64 0, Value.int IntKind.i64 (momS x.e), Value.int IntKind.i64 0, Value.string ⟨#[]⟩] 88)).alloc (Obj.cells #[Value.pointer (some ⟨w4.heap.size, 0, none⟩)] 83)).heap.size from (by have h2 := HB4.out.size; simp at h2 ⊢; omega)); clear hbl4)
        | (refine step_append_lies _ rfl _ _ 125 rfl w.heap.size 83 i0 (.pointer none) 1 8 Tryz.underlying125 HI.out.1 HI.out.2.1 HI.out.2.2.1 HI.out.2.2.2 rfl (by decide) _ _ _ rfl (World.ownsRow.alloc (World.ownsRow.alloc HR4.out _) _) ⟨w4.heap.size + 1, 0, none⟩ 1 1 [.pointer (some ⟨w4.heap.size, 0, none⟩)] rfl rfl ?hnews (by simp [Value.oneCell']) (by decide) (by have := HPL.out; unfold maxLen; omega) (by have := HPL.out; omega) ?hbase _ rfl ?_; (case hnews => (intro j u hj; rcases j with _ | j; (cases hj; simp [go_sem, addr_add]); (simp at hj))); (case hbase => (have h1 := HBW.out.size; have h2 := HB4.out.size; simp at h2 ⊢; omega)); intro g cap5 w5 hown5 hg5 hat5 hlt5; have HX5 := Aside0.mk (And.intro hown5 hg5); have hS5 : w5.cell? ⟨wr.heap.size, 0, none⟩ = some (.slice x.a x.la.length x.cap) ∧ w5.cell? ⟨wr.heap.size, 1, none⟩ = some (.slice x.a' x.lb.length x.cap') ∧ w5.cell? ⟨wr.heap.size, 2, none⟩ = some (.int .i64 x.s) ∧ w5.cell? ⟨wr.heap.size, 3, none⟩ = some (.int .i64 x.e) := (by obtain ⟨y0, y1, y2, y3⟩ := HKX.out _ (below_alloc (below_alloc HB4.out (Obj.cells #[Value.map (some b1), Value.map (some b2), Value.int IntKind.i64 (momS x.s), Value.int IntKind.i64 0, Value.int IntKind.i64 (momS x.e), Value.int IntKind.i64 0, Value.string ⟨#[]⟩] 88)) (Obj.cells #[Value.pointer (some ⟨w4.heap.size, 0, none⟩)] 83)); exact ⟨(hg5.cell_far ⟨wr.heap.size, 0, none⟩ HLW.out HNE.out).trans y0, (hg5.cell_far ⟨wr.heap.size, 1, none⟩ HLW.out HNE.out).trans y1, (hg5.cell_far ⟨wr.heap.size, 2, none⟩ HLW.out HNE.out).trans y2, (hg5.cell_far ⟨wr.heap.size, 3, none⟩ HLW.out HNE.out).trans y3⟩); clear hown5 hg5))
      go_wp2_with fail
      go_roundg g1
      case measure => omega
      case rel =>
        obtain ⟨hown, hg5⟩ := HX5.out
        have hbw4 : Below wr.heap.size wr ((w4.alloc (Obj.cells #[Value.map (some b1), Value.map (some b2), Value.int IntKind.i64 (momS x.s), Value.int IntKind.i64 0, Value.int IntKind.i64 (momS x.e), Value.int IntKind.i64 0, Value.string ⟨#[]⟩] 88)).alloc (Obj.cells #[Value.pointer (some ⟨w4.heap.size, 0, none⟩)] 83)) := below_alloc (below_alloc (below_step HBX.out HB4.out) _) _
        have hr4 : RowP ((w4.alloc (Obj.cells #[Value.map (some b1), Value.map (some b2), Value.int IntKind.i64 (momS x.s), Value.int IntKind.i64 0, Value.int IntKind.i64 (momS x.e), Value.int IntKind.i64 0, Value.string ⟨#[]⟩] 88)).alloc (Obj.cells #[Value.pointer (some ⟨w4.heap.size, 0, none⟩)] 83)) w.heap.size u3 P := HR.out.next hbw4
        have hnew : AlertAt ((w4.alloc (Obj.cells #[Value.map (some b1), Value.map (some b2), Value.int IntKind.i64 (momS x.s), Value.int IntKind.i64 0, Value.int IntKind.i64 (momS x.e), Value.int IntKind.i64 0, Value.string ⟨#[]⟩] 88)).alloc (Obj.cells #[Value.pointer (some ⟨w4.heap.size, 0, none⟩)] 83)) w4.heap.size b1 b2 (momS x.s) (momS x.e) := ⟨by simp; omega, by simp [go_sem], by simp [go_sem], by simp [go_sem], by simp [go_sem], by simp [go_sem], by simp [go_sem]⟩
        have hne4 : some w4.heap.size ≠ u3.ownBlock := fun e => by have := (World.ownsRow.lt HR4.out _ e.symm).2; omega
        have hs4 := HB4.out.size
        have hsw := HBW.out.size
        simp at hs4
        refine ⟨i + 1, P ++ [(w4.heap.size, x)], by go_num, by omega, by omega, ⟨?_⟩, ⟨?_⟩, ⟨?_⟩, ⟨?_⟩, ⟨?_⟩⟩
        · rw [List.map_append, HP.out, List.take_succ_eq_append_getElem hlt, HXX.out]
          rfl
        · unfold RowP ptrs
          rw [List.length_append, List.map_append]
          exact hown
        · intro p hp
          rcases List.mem_append.1 hp with hp | hp
          · exact ((HA.out.next hbw4).kept hr4 hg5) p hp
          · rw [List.mem_singleton] at hp
            subst hp
            have m1 : MapIs ((w4.alloc (Obj.cells #[Value.map (some b1), Value.map (some b2), Value.int IntKind.i64 (momS x.s), Value.int IntKind.i64 0, Value.int IntKind.i64 (momS x.e), Value.int IntKind.i64 0, Value.string ⟨#[]⟩] 88)).alloc (Obj.cells #[Value.pointer (some ⟨w4.heap.size, 0, none⟩)] 83)) b1 20 x.la := (HM14.out.alloc _).alloc _
            have m2 : MapIs ((w4.alloc (Obj.cells #[Value.map (some b1), Value.map (some b2), Value.int IntKind.i64 (momS x.s), Value.int IntKind.i64 0, Value.int IntKind.i64 (momS x.e), Value.int IntKind.i64 0, Value.string ⟨#[]⟩] 88)).alloc (Obj.cells #[Value.pointer (some ⟨w4.heap.size, 0, none⟩)] 83)) b2 20 x.lb := (HM24.out.alloc _).alloc _
            exact ⟨b1, b2, hnew.kept hg5 hne4, m1.kept hg5 (own_ne_map hr4 m1), m2.kept hg5 (own_ne_map hr4 m2)⟩
        · intro p hp
          rcases List.mem_append.1 hp with hp | hp
          · exact HGE.out p hp
          · rw [List.mem_singleton] at hp
            subst hp
            show w.heap.size ≤ w4.heap.size
            omega
        · exact (below_step HBW.out hbw4).grown hg5 (by have := hbw4.size; omega) (fun k hk => (World.ownsRow.lt hr4 k hk).1)
    · have HE := Aside0.mk (show i = xs.length by omega)
      clear hig hile
      go_wp2_with fail
      go_ret
      refine ⟨_, P, rfl, by rw [HP.out, HE.out, List.take_length], HR.out, HA.out, HGE.out, HBW.out⟩
end Go.Proofs.YtobbfenkdnaanaaGreatDoor
