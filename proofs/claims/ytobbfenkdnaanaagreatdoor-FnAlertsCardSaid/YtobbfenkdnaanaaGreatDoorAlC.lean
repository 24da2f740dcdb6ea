/- An alert's methods, by contract. -/
import Derived.Test.YtobbfenkdnaanaaGreatDoorAlB
set_option linter.unusedVariables false
set_option linter.unusedSimpArgs false
namespace Go.Proofs.YtobbfenkdnaanaaGreatDoor
open Go.RowKit Go.Maps Go.WideMaps Go.Sort

/-- An alert lies: its sets, its beginning, its end. -/
def AlertAt (w : World) (y b1 b2 : Nat) (s e : Int) : Prop :=
  y < w.heap.size ∧ w.cell? ⟨y, 0, none⟩ = some (.map (some b1)) ∧ w.cell? ⟨y, 1, none⟩ = some (.map (some b2)) ∧ w.cell? ⟨y, 2, none⟩ = some (.int .i64 s) ∧ w.cell? ⟨y, 3, none⟩ = some (.int .i64 0) ∧ w.cell? ⟨y, 4, none⟩ = some (.int .i64 e) ∧ w.cell? ⟨y, 5, none⟩ = some (.int .i64 0)
theorem AlertAt.next {w w' : World} {y b1 b2 : Nat} {s e : Int} (h : AlertAt w y b1 b2 s e) (hb : Below w.heap.size w w') : AlertAt w' y b1 b2 s e := by
  obtain ⟨hl, h0, h1, h2, h3, h4, h5⟩ := h
  exact ⟨Nat.lt_of_lt_of_le hl hb.size, (hb.cell (p := ⟨y, 0, none⟩) hl).trans h0, (hb.cell (p := ⟨y, 1, none⟩) hl).trans h1, (hb.cell (p := ⟨y, 2, none⟩) hl).trans h2, (hb.cell (p := ⟨y, 3, none⟩) hl).trans h3, (hb.cell (p := ⟨y, 4, none⟩) hl).trans h4, (hb.cell (p := ⟨y, 5, none⟩) hl).trans h5⟩
/-- The word of a status. -/
def statV : Bool → ByteArray
  | true => ⟨#[114, 101, 115, 111, 108, 118, 101, 100]⟩
  | false => ⟨#[102, 105, 114, 105, 110, 103]⟩
def resB (e t : Int) : Bool := !decide (e = 0) && !decide (t < e)

set_option maxHeartbeats 1000000 in
set_option maxRecDepth 100000 in
theorem resolved_calls (y b1 b2 : Nat) (s e t : Int) (w : World) (h : AlertAt w y b1 b2 s e) :
    Calls Tryz.prog 60 #[.pointer (some ⟨y, 0, none⟩), .agg #[.int .i64 t, .int .i64 0]] w fun r w' => r = .returned (.bool (resB e t)) ∧ Below w.heap.size w w' := by
  have HA := Aside0.mk (h.next (below_alloc (Below.refl _ _) (Obj.cells #[Value.int IntKind.i64 t, Value.int IntKind.i64 0] 85)))
  clear h
  obtain ⟨hl, h0, h1, h2, h3, h4, h5⟩ := HA.out
  have HL := Aside0.mk hl
  clear hl h0 h1 h2 h3
  go_enter Tryz.func60, Tryz.ntmps60
  go_wp2_with fail
  refine (isZero_calls e _).mono ?_
  rintro r w1 ⟨rfl, hb1⟩
  have g4 := (hb1.cell (p := ⟨y, 4, none⟩) HL.out).trans h4
  have g5 := (hb1.cell (p := ⟨y, 5, none⟩) HL.out).trans h5
  have k0 := hb1.cell (p := ⟨w.heap.size, 0, none⟩) (by simp)
  have k1 := hb1.cell (p := ⟨w.heap.size, 1, none⟩) (by simp)
  simp [go_sem] at k0 k1
  have HB1 := Aside0.mk (below_step (below_alloc (Below.refl w.heap.size w) _) hb1)
  clear hb1 h4 h5
  by_cases he : e = 0
  · have HR := Aside0.mk (show resB e t = false by simp [resB, he])
    rw [decide_eq_true he]
    clear he
    go_wp2
    go_ret
    exact ⟨by rw [HR.out]; rfl, HB1.out⟩
  · have HR := Aside0.mk (show resB e t = !decide (t < e) by simp [resB, he])
    rw [decide_eq_false he]
    clear he
    go_wp2_with fail
    go_region_with (first
      | (refine (after_calls e t _).mono ?_; rintro r w2 ⟨rfl, hb2⟩; have HB2 := Aside0.mk hb2; clear hb2))
    all_goals
      have HB := Aside0.mk (below_step HB1.out.drew HB2.out)
      go_wp2
      go_ret
      exact ⟨by rw [HR.out]; rfl, HB.out⟩

set_option maxHeartbeats 1000000 in
set_option maxRecDepth 100000 in
theorem status_calls (y b1 b2 : Nat) (s e t : Int) (w : World) (h : AlertAt w y b1 b2 s e) :
    Calls Tryz.prog 61 #[.pointer (some ⟨y, 0, none⟩), .agg #[.int .i64 t, .int .i64 0]] w fun r w' => r = .returned (.string (statV (resB e t))) ∧ Below w.heap.size w w' := by
  have HA := Aside0.mk (h.next (below_alloc (Below.refl _ _) (Obj.cells #[Value.int IntKind.i64 t, Value.int IntKind.i64 0] 85)))
  clear h
  go_enter Tryz.func61, Tryz.ntmps61
  go_wp2_with fail
  refine (resolved_calls y b1 b2 s e t _ HA.out).mono ?_
  rintro r w1 ⟨rfl, hb1⟩
  have HB1 := Aside0.mk (below_step (below_alloc (Below.refl w.heap.size w) _) hb1)
  clear hb1
  cases hr : resB e t with
  | false =>
    have HR := Aside0.mk (show statV (resB e t) = _ from congrArg statV hr)
    clear hr
    go_wp2
    go_ret
    exact ⟨by rw [HR.out]; rfl, HB1.out⟩
  | true =>
    have HR := Aside0.mk (show statV (resB e t) = _ from congrArg statV hr)
    clear hr
    go_wp2
    go_ret
    exact ⟨by rw [HR.out]; rfl, HB1.out⟩

/-- The name of a set's alert. -/
def anameV (l : LL) : ByteArray := (getL l ⟨#[97, 108, 101, 114, 116, 110, 97, 109, 101]⟩).getD ⟨#[]⟩

set_option maxHeartbeats 1000000 in
set_option maxRecDepth 100000 in
theorem aname_calls (y b1 b2 na : Nat) (s e : Int) (la : LL) (w : World) (h : AlertAt w y b1 b2 s e) (ha : MapIs w b1 na la) :
    Calls Tryz.prog 62 #[.pointer (some ⟨y, 0, none⟩)] w fun r w' => r = .returned (.string (anameV la)) ∧ Below w.heap.size w w' := by
  have HM := Aside0.mk ha
  obtain ⟨hl, h0, _⟩ := h
  clear hl ha
  go_enter Tryz.func62, Tryz.ntmps62
  go_wp2_with (at_lookup; refine wpList_get_label _ rfl _ _ 75 rfl Tryz.underlying75 b1 na la rfl HM.out ⟨#[97, 108, 101, 114, 116, 110, 97, 109, 101]⟩ rfl (by decide) ?_)
  go_ret
  exact ⟨rfl, Below.refl _ _⟩

set_option maxHeartbeats 1000000 in
set_option maxRecDepth 100000 in
theorem afinger_calls (y b1 b2 na : Nat) (s e : Int) (la : LL) (w : World) (h : AlertAt w y b1 b2 s e) (ha : MapIs w b1 na la) (hsa : Sized la) :
    Calls Tryz.prog 63 #[.pointer (some ⟨y, 0, none⟩)] w fun r w' => r = .returned (.int .u64 (fingH la)) ∧ Below w.heap.size w w' := by
  have HM := Aside0.mk ha
  have HSA := Aside0.mk hsa
  obtain ⟨hl, h0, _⟩ := h
  clear hl ha hsa
  go_enter Tryz.func63, Tryz.ntmps63
  go_wp2_with (go_at_call 95; go_in)
  refine (finger1_calls b1 na la _ HM.out HSA.out).mono ?_
  rintro r w1 ⟨rfl, hb1⟩
  go_wp2
  go_ret
  exact ⟨rfl, hb1⟩
end Go.Proofs.YtobbfenkdnaanaaGreatDoor
