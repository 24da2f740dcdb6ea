/- The law FnAlert, walked: the main road. -/
import Derived.Test.YtobbfenkdnaanaaGreatDoorAlL
import Derived.Deep.RegionHeld3
import Derived.Deep.DeepCutAuto
set_option linter.unusedVariables false
set_option linter.unusedSimpArgs false
namespace Go.Proofs.YtobbfenkdnaanaaGreatDoor
open Go.RowKit Go.Maps Go.WideMaps Go.Sort

theorem want_facts {u w' : World} (hb : Below (u.alloc (Obj.cells #[Value.bool false, Value.string ⟨#[]⟩, Value.string ⟨#[]⟩, Value.int IntKind.u64 0, Value.bool false] 34)).heap.size (u.alloc (Obj.cells #[Value.bool false, Value.string ⟨#[]⟩, Value.string ⟨#[]⟩, Value.int IntKind.u64 0, Value.bool false] 34)) w') :
    w'.cell? ⟨u.heap.size, 0, none⟩ = some (.bool false) ∧ w'.cell? ⟨u.heap.size, 1, none⟩ = some (.string ⟨#[]⟩) ∧ w'.cell? ⟨u.heap.size, 2, none⟩ = some (.string ⟨#[]⟩) ∧ w'.cell? ⟨u.heap.size, 3, none⟩ = some (.int .u64 0) ∧ w'.cell? ⟨u.heap.size, 4, none⟩ = some (.bool false) ∧
    w'.frozen? ⟨u.heap.size, 0, none⟩ = false ∧ w'.frozen? ⟨u.heap.size, 1, none⟩ = false ∧ w'.frozen? ⟨u.heap.size, 2, none⟩ = false ∧ w'.frozen? ⟨u.heap.size, 3, none⟩ = false ∧ w'.frozen? ⟨u.heap.size, 4, none⟩ = false :=
  ⟨(hb.cell (p := ⟨u.heap.size, 0, none⟩) (by simp)).trans (by simp [go_sem]), (hb.cell (p := ⟨u.heap.size, 1, none⟩) (by simp)).trans (by simp [go_sem]), (hb.cell (p := ⟨u.heap.size, 2, none⟩) (by simp)).trans (by simp [go_sem]), (hb.cell (p := ⟨u.heap.size, 3, none⟩) (by simp)).trans (by simp [go_sem]), (hb.cell (p := ⟨u.heap.size, 4, none⟩) (by simp)).trans (by simp [go_sem]),
   (hb.frozen (p := ⟨u.heap.size, 0, none⟩) (by simp)).trans (by simp [go_sem]), (hb.frozen (p := ⟨u.heap.size, 1, none⟩) (by simp)).trans (by simp [go_sem]), (hb.frozen (p := ⟨u.heap.size, 2, none⟩) (by simp)).trans (by simp [go_sem]), (hb.frozen (p := ⟨u.heap.size, 3, none⟩) (by simp)).trans (by simp [go_sem]), (hb.frozen (p := ⟨u.heap.size, 4, none⟩) (by simp)).trans (by simp [go_sem])⟩

theorem want_store {W : World} {p : Nat} (z : W.cell? ⟨p, 0, none⟩ = some (.bool false) ∧ W.cell? ⟨p, 1, none⟩ = some (.string ⟨#[]⟩) ∧ W.cell? ⟨p, 2, none⟩ = some (.string ⟨#[]⟩) ∧ W.cell? ⟨p, 3, none⟩ = some (.int .u64 0) ∧ W.cell? ⟨p, 4, none⟩ = some (.bool false) ∧
    W.frozen? ⟨p, 0, none⟩ = false ∧ W.frozen? ⟨p, 1, none⟩ = false ∧ W.frozen? ⟨p, 2, none⟩ = false ∧ W.frozen? ⟨p, 3, none⟩ = false ∧ W.frozen? ⟨p, 4, none⟩ = false) (b v : Bool) (st : ByteArray) (f : Int) :
    ∃ W', W' = ((((W.setCell ⟨p, 0, none⟩ (.bool b)).setCell ⟨p, 1, none⟩ (.string st)).setCell ⟨p, 2, none⟩ (.string ⟨#[]⟩)).setCell ⟨p, 3, none⟩ (.int .u64 f)).setCell ⟨p, 4, none⟩ (.bool v) ∧ W'.heap.size = W.heap.size ∧
      W'.cell? ⟨p, 0, none⟩ = some (.bool b) ∧ W'.cell? ⟨p, 1, none⟩ = some (.string st) ∧ W'.cell? ⟨p, 2, none⟩ = some (.string ⟨#[]⟩) ∧ W'.cell? ⟨p, 3, none⟩ = some (.int .u64 f) ∧ W'.cell? ⟨p, 4, none⟩ = some (.bool v) ∧ W'.frozen? ⟨p, 1, none⟩ = false ∧ W'.frozen? ⟨p, 2, none⟩ = false := by
  obtain ⟨z0, z1, z2, z3, z4, q0, q1, q2, q3, q4⟩ := z
  refine ⟨_, rfl, by simp [World.setCell], ?_, ?_, ?_, ?_, ?_, ?_, ?_⟩ <;> simp [go_sem, z0, z1, z2, z3, z4, q1, q2]

theorem askEq (r : Bool) (st nm : ByteArray) (f : Int) (v : Bool) (w : World) : (binOp .eql 34 (.agg #[.bool r, .string st, .string nm, .int .u64 f, .bool v]) (.agg #[.bool r, .string st, .string nm, .int .u64 f, .bool v])).run Tryz.prog w = .ok (.bool true) w := by
  have u9 := Tryz.underlying9
  have a9 := Tryz.isAgg9
  have z9 := Tryz.sizeOf9
  have u4 := Tryz.underlying4
  have a4 := Tryz.isAgg4
  have z4 := Tryz.sizeOf4
  have u25 := Tryz.underlying25
  have a25 := Tryz.isAgg25
  have z25 := Tryz.sizeOf25
  have hS : Tryz.prog.underlying 34 = some (.struct (Tryz.prog.fieldsOf 34)) := by kernel_rfl
  have hp : Tryz.prog.stoodInHeld 34 = false := by kernel_rfl
  rw [run_eql_struct, show (10000 : Nat) = 9999 + 1 from rfl, run_equalIn_agg w 9999 34 _ _ hS hp]
  simp only [Program.fieldsOf, Tryz.underlying34]
  go_simp
theorem askGuard (r : Bool) (st nm : ByteArray) (f : Int) (v : Bool) (op : BinOp) (a b : Operand) (w : World) : (eqGuard op 34 a b (.agg #[.bool r, .string st, .string nm, .int .u64 f, .bool v]) (.agg #[.bool r, .string st, .string nm, .int .u64 f, .bool v])).run Tryz.prog w = .ok () w :=
  run_eqGuard_agg w op 34 a b _ _ (by kernel_rfl)

set_option maxHeartbeats 20000000 in
set_option maxRecDepth 100000 in
theorem al_main (a a' : Option Addr) (cap cap' : Nat) (la lb : LL) (s e t : Int) (w : World) (hla : Labs w a la) (hlb : Labs w a' lb) (hma : la.length ≤ 9223372036854775807) (hmb : lb.length ≤ 9223372036854775807) (hg : GlobT w) (hfit : (fitsB la && fitsB lb) = true) (hla3 : la.length ≤ 2147483647) (hlb3 : lb.length ≤ 2147483647) (hoa : ordB la = true) (hob : ordB lb = true) (d0 : decide (s < 0) = false) (d1 : decide (8589934592 < s) = false) (d2 : decide (e < 0) = false) (d3 : decide (8589934592 < e) = false) (d4 : decide (t < 1) = false) (d5 : decide (8589934592 < t) = false) :
    Calls Tryz.prog 4 #[.agg #[.slice a la.length cap, .slice a' lb.length cap', .int .i64 s, .int .i64 e], .int .i64 t] w fun r w' => r = .returned (.bool true) ∧ Below w.heap.size w w' := by
  have HK := Aside0.mk (below_alloc (Below.refl w.heap.size w) (Obj.cells #[Value.slice a la.length cap, Value.slice a' lb.length cap', Value.int IntKind.i64 s, Value.int IntKind.i64 e] 31))
  have HL := Aside0.mk (And.intro (hla.next HK.out) (hlb.next HK.out))
  have HG := Aside0.mk (hg.next HK.out)
  have HKX := Aside0.mk (show ∀ w', Below (w.alloc (Obj.cells #[Value.slice a la.length cap, Value.slice a' lb.length cap', Value.int IntKind.i64 s, Value.int IntKind.i64 e] 31)).heap.size (w.alloc (Obj.cells #[Value.slice a la.length cap, Value.slice a' lb.length cap', Value.int IntKind.i64 s, Value.int IntKind.i64 e] 31)) w' → w'.cell? ⟨w.heap.size, 0, none⟩ = some (.slice a la.length cap) ∧ w'.cell? ⟨w.heap.size, 1, none⟩ = some (.slice a' lb.length cap') ∧ w'.cell? ⟨w.heap.size, 2, none⟩ = some (.int .i64 s) ∧ w'.cell? ⟨w.heap.size, 3, none⟩ = some (.int .i64 e) from fun w' hb =>
    ⟨(hb.cell (p := ⟨w.heap.size, 0, none⟩) (by simp)).trans (by simp [go_sem]), (hb.cell (p := ⟨w.heap.size, 1, none⟩) (by simp)).trans (by simp [go_sem]), (hb.cell (p := ⟨w.heap.size, 2, none⟩) (by simp)).trans (by simp [go_sem]), (hb.cell (p := ⟨w.heap.size, 3, none⟩) (by simp)).trans (by simp [go_sem])⟩)
  clear hla hlb hg
  have HFIT := Aside0.mk hfit
  have HLA := Aside0.mk hla3
  have HLB := Aside0.mk hlb3
  clear hfit hla3 hlb3
  have HSA := Aside0.mk (ord_of hoa)
  have HSB := Aside0.mk (ord_of hob)
  have HOA := Aside0.mk hoa
  have HOB := Aside0.mk hob
  have HNUM := Aside0.mk (And.intro (of_decide_eq_false d0) (And.intro (of_decide_eq_false d1) (And.intro (of_decide_eq_false d2) (And.intro (of_decide_eq_false d3) (And.intro (of_decide_eq_false d4) (of_decide_eq_false d5))))))
  clear hoa hob
  go_enter Tryz.func4, Tryz.ntmps4
  go_wp2_with fail
  refine (fits9_calls a a' cap cap' la lb s e _ HL.out.1 HL.out.2 hma hmb).mono ?_
  rintro r w1 ⟨rfl, hb1⟩
  rw [HFIT.out]
  have HB1 := Aside0.mk hb1
  obtain ⟨x0, x1, x2, x3⟩ := HKX.out _ HB1.out
  clear hb1
  go_wp2_with fail
  refine (ordered_calls a cap la _ (HL.out.1.next HB1.out) HLA.out).mono ?_
  rintro r w2 ⟨rfl, hb2⟩
  rw [HOA.out]
  have HB2 := Aside0.mk (below_step HB1.out hb2)
  clear hb2 x0 x1 x2 x3
  obtain ⟨x0, x1, x2, x3⟩ := HKX.out _ HB2.out
  go_wp2_with fail
  refine (ordered_calls a' cap' lb _ (HL.out.2.next HB2.out) HLB.out).mono ?_
  rintro r w3 ⟨rfl, hb3⟩
  rw [HOB.out]
  have HB3 := Aside0.mk (below_step HB2.out hb3)
  clear hb3 x0 x1 x2 x3
  obtain ⟨x0, x1, x2, x3⟩ := HKX.out _ HB3.out
  go_wp2_with fail
  clear d0 d1 d2 d3 d4 d5
  go_cut [5] (fun v5 w' => ∃ p, v5 = .pointer (some ⟨p, 0, none⟩) ∧ w.heap.size < p ∧ p < w'.heap.size ∧ w'.cell? ⟨p, 0, none⟩ = some (.bool (!decide (e = 0) && decide (e ≤ t))) ∧ w'.cell? ⟨p, 1, none⟩ = some (.string (statV false)) ∧ w'.cell? ⟨p, 2, none⟩ = some (.string ⟨#[]⟩) ∧ w'.cell? ⟨p, 3, none⟩ = some (.int .u64 (fnvL fnv0 (flatL la))) ∧ w'.cell? ⟨p, 4, none⟩ = some (.bool (rAlB s e la lb)) ∧ w'.frozen? ⟨p, 1, none⟩ = false ∧ w'.frozen? ⟨p, 2, none⟩ = false ∧ Below (w.alloc (Obj.cells #[Value.slice a la.length cap, Value.slice a' lb.length cap', Value.int IntKind.i64 s, Value.int IntKind.i64 e] 31)).heap.size (w.alloc (Obj.cells #[Value.slice a la.length cap, Value.slice a' lb.length cap', Value.int IntKind.i64 s, Value.int IntKind.i64 e] 31)) w')
  case first =>
    have hb0 := HB3.out.drew
    clear x0 x1 x2 x3
    refine wp_region_noPanic ?_
    by_cases he : e = 0
    · have c1 : (e != 0) = false := by simp [he]
      have HE0 := Aside0.mk he
      clear he
      refine wp_region_held_drew (S := fun w' => Below (w.alloc (Obj.cells #[Value.slice a la.length cap, Value.slice a' lb.length cap', Value.int IntKind.i64 s, Value.int IntKind.i64 e] 31)).heap.size (w.alloc (Obj.cells #[Value.slice a la.length cap, Value.slice a' lb.length cap', Value.int IntKind.i64 s, Value.int IntKind.i64 e] 31)) w') (by kernel_rfl) hb0 (fun hS0 => ?_)
      refine wpAnyH_take (i := 0) (oi := { dst := some 48, op := Op.fieldAddr 31 (Operand.tmp 2) 3, type := 0, pos := "model.go:198", after := #[], guard := none }) (v := ?v1) rfl (by kernel_rfl) (by kernel_rfl) (by kernel_rfl) (fun _ _ _ h => h) (Or.inl ⟨by rfl, ?hy1⟩) hS0 ?rest1
      case hy1 => (intro w' hSw; obtain ⟨x0, x1, x2, x3⟩ := HKX.out _ hSw; go_simp; try with_reducible rfl)
      try simp only [Act.put, List.setIfInBounds_toArray, List.set_cons_zero, List.set_cons_succ]
      refine wpAnyH_take (i := 1) (oi := { dst := some 49, op := Op.load 2 (Operand.tmp 48), type := 2, pos := "model.go:198", after := #[{ on := 0, ground := Ground.data }], guard := none }) (v := ?v2) rfl (by kernel_rfl) (by kernel_rfl) (by kernel_rfl) (fun _ _ _ h => h) (Or.inl ⟨by rfl, ?hy2⟩) hS0 ?rest2
      case hy2 => (intro w' hSw; obtain ⟨x0, x1, x2, x3⟩ := HKX.out _ hSw; go_simp; try with_reducible rfl)
      try simp only [Act.put, List.setIfInBounds_toArray, List.set_cons_zero, List.set_cons_succ]
      refine wpAnyH_take (i := 2) (oi := { dst := some 50, op := Op.binOp BinOp.neq 2 (Operand.tmp 49) (Operand.const (Value.int IntKind.i64 0)) 2, type := 4, pos := "model.go:198", after := #[{ on := 1, ground := Ground.data }], guard := none }) (v := ?v3) rfl (by kernel_rfl) (by kernel_rfl) (by kernel_rfl) (fun _ _ _ h => h) (Or.inl ⟨by rfl, ?hy3⟩) hS0 ?rest3
      case hy3 => (intro w' hSw; obtain ⟨x0, x1, x2, x3⟩ := HKX.out _ hSw; go_simp; try with_reducible rfl)
      try simp only [Act.put, List.setIfInBounds_toArray, List.set_cons_zero, List.set_cons_succ]
      refine wpAnyH_take (i := 3) (oi := { dst := some 51, op := Op.move (Operand.tmp 50), type := 4, pos := "model.go:198", after := #[{ on := 2, ground := Ground.data }], guard := none }) (v := ?v4) rfl (by kernel_rfl) (by kernel_rfl) (by kernel_rfl) (fun _ _ _ h => h) (Or.inl ⟨by rfl, ?hy4⟩) hS0 ?rest4
      case hy4 => (intro w' hSw; obtain ⟨x0, x1, x2, x3⟩ := HKX.out _ hSw; go_simp; try with_reducible rfl)
      try simp only [Act.put, List.setIfInBounds_toArray, List.set_cons_zero, List.set_cons_succ]
      refine wpAnyH_take (i := 4) (oi := { dst := some 52, op := Op.fieldAddr 31 (Operand.tmp 2) 3, type := 0, pos := "model.go:198", after := #[{ on := 3, ground := Ground.guard }], guard := some (3, true) }) (v := undef) rfl (by kernel_rfl) (by kernel_rfl) (by kernel_rfl) (fun _ _ _ h => h) (Or.inr ⟨by kernel_rfl, rfl⟩) hS0 ?_
      try simp only [Act.put, List.setIfInBounds_toArray, List.set_cons_zero, List.set_cons_succ]
      refine wpAnyH_take (i := 5) (oi := { dst := some 53, op := Op.load 2 (Operand.tmp 52), type := 2, pos := "model.go:198", after := #[{ on := 4, ground := Ground.data }, { on := 3, ground := Ground.guard }], guard := some (3, true) }) (v := undef) rfl (by kernel_rfl) (by kernel_rfl) (by kernel_rfl) (fun _ _ _ h => h) (Or.inr ⟨by kernel_rfl, rfl⟩) hS0 ?_
      try simp only [Act.put, List.setIfInBounds_toArray, List.set_cons_zero, List.set_cons_succ]
      refine wpAnyH_take (i := 6) (oi := { dst := some 54, op := Op.move (Operand.tmp 1), type := 2, pos := "model.go:198", after := #[{ on := 3, ground := Ground.guard }], guard := some (3, true) }) (v := undef) rfl (by kernel_rfl) (by kernel_rfl) (by kernel_rfl) (fun _ _ _ h => h) (Or.inr ⟨by kernel_rfl, rfl⟩) hS0 ?_
      try simp only [Act.put, List.setIfInBounds_toArray, List.set_cons_zero, List.set_cons_succ]
      refine wpAnyH_take (i := 7) (oi := { dst := some 55, op := Op.binOp BinOp.leq 2 (Operand.tmp 53) (Operand.tmp 54) 2, type := 4, pos := "model.go:198", after := #[{ on := 5, ground := Ground.data }, { on := 6, ground := Ground.data }, { on := 3, ground := Ground.guard }], guard := some (3, true) }) (v := undef) rfl (by kernel_rfl) (by kernel_rfl) (by kernel_rfl) (fun _ _ _ h => h) (Or.inr ⟨by kernel_rfl, rfl⟩) hS0 ?_
      try simp only [Act.put, List.setIfInBounds_toArray, List.set_cons_zero, List.set_cons_succ]
      refine wpAnyH_take (i := 8) (oi := { dst := some 56, op := Op.pick (Operand.tmp 51) (Operand.tmp 55) (Operand.const (Value.bool false)), type := 4, pos := "model.go:198", after := #[{ on := 3, ground := Ground.data }, { on := 7, ground := Ground.data }], guard := none }) (v := ?v5) rfl (by kernel_rfl) (by kernel_rfl) (by kernel_rfl) (fun _ _ _ h => h) (Or.inl ⟨by rfl, ?hy5⟩) hS0 ?rest5
      case hy5 => (intro w' hSw; obtain ⟨x0, x1, x2, x3⟩ := HKX.out _ hSw; go_simp; try with_reducible rfl)
      try simp only [Act.put, List.setIfInBounds_toArray, List.set_cons_zero, List.set_cons_succ]
      refine wpAnyH_take (i := 9) (oi := { dst := some 57, op := Op.fieldAddr 31 (Operand.tmp 2) 0, type := 0, pos := "model.go:198", after := #[], guard := none }) (v := ?v6) rfl (by kernel_rfl) (by kernel_rfl) (by kernel_rfl) (fun _ _ _ h => h) (Or.inl ⟨by rfl, ?hy6⟩) hS0 ?rest6
      case hy6 => (intro w' hSw; obtain ⟨x0, x1, x2, x3⟩ := HKX.out _ hSw; go_simp; try with_reducible rfl)
      try simp only [Act.put, List.setIfInBounds_toArray, List.set_cons_zero, List.set_cons_succ]
      refine wpAnyH_take (i := 10) (oi := { dst := some 58, op := Op.load 22 (Operand.tmp 57), type := 22, pos := "model.go:198", after := #[{ on := 9, ground := Ground.data }], guard := none }) (v := ?v7) rfl (by kernel_rfl) (by kernel_rfl) (by kernel_rfl) (fun _ _ _ h => h) (Or.inl ⟨by rfl, ?hy7⟩) hS0 ?rest7
      case hy7 => (intro w' hSw; obtain ⟨x0, x1, x2, x3⟩ := HKX.out _ hSw; go_simp; try with_reducible rfl)
      try simp only [Act.put, List.setIfInBounds_toArray, List.set_cons_zero, List.set_cons_succ]
      refine wpAnyH_take (i := 12) (oi := { dst := some 60, op := Op.load 31 (Operand.tmp 2), type := 31, pos := "model.go:198", after := #[], guard := none }) (v := ?v8) rfl (by kernel_rfl) (by kernel_rfl) (by kernel_rfl) (fun _ _ _ h => h) (Or.inl ⟨by rfl, ?hy8⟩) hS0 ?rest8
      case hy8 => (intro w' hSw; obtain ⟨x0, x1, x2, x3⟩ := HKX.out _ hSw; go_simp; try with_reducible rfl)
      try simp only [Act.put, List.setIfInBounds_toArray, List.set_cons_zero, List.set_cons_succ]
      refine wpAnyH_ready (rs := [11, 15]) (by kernel_rfl) (by simp) ?_
      refine AllReadyH.cons (o := { dst := some 59, op := Op.call { callee := Callee.value (Operand.func 16), args := #[Operand.tmp 58], argTypes := #[22] }, type := 25, pos := "model.go:198", after := #[{ on := 10, ground := Ground.data }, { on := 3, ground := Ground.chain }], guard := none }) rfl (fun K hK => ?_) ?_
      ·
        go_simp
        go_at_call 16
        refine Calls.mono (specFinger_calls a cap la _ (HL.out.1.next HB3.out.drew) HSA.out.1) ?_
        rintro r w4 ⟨rfl, hb4⟩
        have HB4 := Aside0.mk (below_step HB3.out.drew hb4)
        have HH4 := Aside0.mk hb4
        clear hb4
        refine hK.out _ _ HB4.out (fun hS4 => ?_)
        try simp only [Act.put, List.setIfInBounds_toArray, List.set_cons_zero, List.set_cons_succ]
        refine wpAnyH_ready (rs := [13, 15]) (by kernel_rfl) (by simp) ?_
        refine AllReadyH.cons (o := { dst := some 61, op := Op.call { callee := Callee.value (Operand.func 19), args := #[Operand.tmp 60], argTypes := #[31] }, type := 4, pos := "model.go:198", after := #[{ on := 12, ground := Ground.data }, { on := 11, ground := Ground.chain }], guard := none }) rfl (fun K hK => ?_) ?_
        ·
          go_simp
          go_at_call 19
          refine Calls.mono (ralert_calls a a' cap cap' la lb s e _ (HL.out.1.next HB4.out) (HL.out.2.next HB4.out) HSA.out.1 HSB.out.1 (HG.out.tabs.next HB4.out)) ?_
          rintro r w5 ⟨rfl, hb5⟩
          have HB5 := Aside0.mk (below_step HB4.out hb5)
          have HH5 := Aside0.mk hb5
          clear hb5
          refine hK.out _ _ HB5.out (fun hS5 => ?_)
          try simp only [Act.put, List.setIfInBounds_toArray, List.set_cons_zero, List.set_cons_succ]
          refine wpAnyH_take (i := 14) (oi := { dst := some 62, op := Op.build 34 #[(0, Operand.tmp 56), (1, Operand.const (Value.string { data := #[102, 105, 114, 105, 110, 103] })), (3, Operand.tmp 59), (4, Operand.tmp 61)], type := 34, pos := "model.go:198", after := #[{ on := 8, ground := Ground.data }, { on := 11, ground := Ground.data }, { on := 13, ground := Ground.data }], guard := none }) (v := ?v9) rfl (by kernel_rfl) (by kernel_rfl) (by kernel_rfl) (fun _ _ _ h => h) (Or.inl ⟨by rfl, ?hy9⟩) hS5 ?rest9
          case hy9 => (intro w' hSw; obtain ⟨x0, x1, x2, x3⟩ := HKX.out _ hSw; go_simp; try with_reducible rfl)
          try simp only [Act.put, List.setIfInBounds_toArray, List.set_cons_zero, List.set_cons_succ]
          refine wpAnyH_ready (rs := [15]) (by kernel_rfl) (by simp) ?_
          refine AllReadyH.cons (o := { dst := some 5, op := Op.alloc 34, type := 0, pos := "model.go:198", after := #[], guard := none }) rfl (fun K hK => ?_) ?_
          ·
            go_simp
            refine hK.out _ _ (below_alloc HB5.out _) (fun hS7 => ?_)
            try simp only [Act.put, List.setIfInBounds_toArray, List.set_cons_zero, List.set_cons_succ]
            refine wpAnyH_ready (rs := [16]) (by kernel_rfl) (by simp) ?_
            refine AllReadyH.cons (o := { dst := none, op := Op.store 34 (Operand.tmp 5) (Operand.tmp 62), type := 0, pos := "model.go:198", after := #[{ on := 15, ground := Ground.data }, { on := 14, ground := Ground.data }, { on := 13, ground := Ground.chain }, { on := 0, ground := Ground.phase }, { on := 1, ground := Ground.phase }, { on := 2, ground := Ground.phase }, { on := 3, ground := Ground.phase }, { on := 4, ground := Ground.phase }, { on := 5, ground := Ground.phase }, { on := 6, ground := Ground.phase }, { on := 7, ground := Ground.phase }, { on := 8, ground := Ground.phase }, { on := 9, ground := Ground.phase }, { on := 10, ground := Ground.phase }, { on := 11, ground := Ground.phase }, { on := 12, ground := Ground.phase }, { on := 13, ground := Ground.phase }, { on := 14, ground := Ground.phase }, { on := 15, ground := Ground.phase }], guard := none }) rfl (fun K hK => ?_) ?_
            ·
              have HP := Aside0.mk (show w.heap.size < w5.heap.size by have h1 := HB5.out.size; simp at h1; omega)
              have HP2 := Aside0.mk (show w5.heap.size < (w5.alloc (Obj.cells #[Value.bool false, Value.string ⟨#[]⟩, Value.string ⟨#[]⟩, Value.int IntKind.u64 0, Value.bool false] 34)).heap.size by simp)
              go_simp
              refine hK.out _ _ (below_alloc HB5.out _) (fun hS6 => ?_)
              try simp only [Act.put, List.setIfInBounds_toArray, List.set_cons_zero, List.set_cons_succ]
              refine wpAnyH_done (by kernel_rfl) ?_ _
              refine NoPanic.normal ?_
              have HBV := Aside0.mk (show (!decide (e = 0) && decide (e ≤ t)) = false by simp [HE0.out])
              have HS6 := Aside0.mk hS6
              clear hS6
              go_wp2_with fail
              go_meet
              exact ⟨w5.heap.size, rfl, HP.out, by simp, by rw [HBV.out]; simp [go_sem], by simp [go_sem]; rfl, by simp [go_sem], by simp [go_sem], by simp [go_sem], by simp [go_sem], by simp [go_sem], HS6.out⟩
            · exact AllReadyH.nil
          · exact AllReadyH.nil
        refine AllReadyH.cons (o := { dst := some 5, op := Op.alloc 34, type := 0, pos := "model.go:198", after := #[], guard := none }) rfl (fun K hK => ?_) ?_
        ·
          go_simp
          refine hK.out _ _ (below_alloc HB4.out _) (fun hS7 => ?_)
          try simp only [Act.put, List.setIfInBounds_toArray, List.set_cons_zero, List.set_cons_succ]
          refine wpAnyH_ready (rs := [13]) (by kernel_rfl) (by simp) ?_
          refine AllReadyH.cons (o := { dst := some 61, op := Op.call { callee := Callee.value (Operand.func 19), args := #[Operand.tmp 60], argTypes := #[31] }, type := 4, pos := "model.go:198", after := #[{ on := 12, ground := Ground.data }, { on := 11, ground := Ground.chain }], guard := none }) rfl (fun K hK => ?_) ?_
          ·
            go_simp
            go_at_call 19
            refine Calls.mono (ralert_calls a a' cap cap' la lb s e _ (HL.out.1.next (below_alloc HB4.out _)) (HL.out.2.next (below_alloc HB4.out _)) HSA.out.1 HSB.out.1 (HG.out.tabs.next (below_alloc HB4.out _))) ?_
            rintro r w5 ⟨rfl, hb5⟩
            have HB5 := Aside0.mk (below_step (below_alloc HB4.out _) hb5)
            have HH5 := Aside0.mk hb5
            clear hb5
            refine hK.out _ _ HB5.out (fun hS5 => ?_)
            try simp only [Act.put, List.setIfInBounds_toArray, List.set_cons_zero, List.set_cons_succ]
            refine wpAnyH_take (i := 14) (oi := { dst := some 62, op := Op.build 34 #[(0, Operand.tmp 56), (1, Operand.const (Value.string { data := #[102, 105, 114, 105, 110, 103] })), (3, Operand.tmp 59), (4, Operand.tmp 61)], type := 34, pos := "model.go:198", after := #[{ on := 8, ground := Ground.data }, { on := 11, ground := Ground.data }, { on := 13, ground := Ground.data }], guard := none }) (v := ?v10) rfl (by kernel_rfl) (by kernel_rfl) (by kernel_rfl) (fun _ _ _ h => h) (Or.inl ⟨by rfl, ?hy10⟩) hS5 ?rest10
            case hy10 => (intro w' hSw; obtain ⟨x0, x1, x2, x3⟩ := HKX.out _ hSw; go_simp; try with_reducible rfl)
            try simp only [Act.put, List.setIfInBounds_toArray, List.set_cons_zero, List.set_cons_succ]
            refine wpAnyH_ready (rs := [16]) (by kernel_rfl) (by simp) ?_
            refine AllReadyH.cons (o := { dst := none, op := Op.store 34 (Operand.tmp 5) (Operand.tmp 62), type := 0, pos := "model.go:198", after := #[{ on := 15, ground := Ground.data }, { on := 14, ground := Ground.data }, { on := 13, ground := Ground.chain }, { on := 0, ground := Ground.phase }, { on := 1, ground := Ground.phase }, { on := 2, ground := Ground.phase }, { on := 3, ground := Ground.phase }, { on := 4, ground := Ground.phase }, { on := 5, ground := Ground.phase }, { on := 6, ground := Ground.phase }, { on := 7, ground := Ground.phase }, { on := 8, ground := Ground.phase }, { on := 9, ground := Ground.phase }, { on := 10, ground := Ground.phase }, { on := 11, ground := Ground.phase }, { on := 12, ground := Ground.phase }, { on := 13, ground := Ground.phase }, { on := 14, ground := Ground.phase }, { on := 15, ground := Ground.phase }], guard := none }) rfl (fun K hK => ?_) ?_
            ·
              have HP := Aside0.mk (show w.heap.size < w4.heap.size by have h1 := HB4.out.size; simp at h1; omega)
              have HP2 := Aside0.mk (show w4.heap.size < w5.heap.size by have h2 := HH5.out.size; simp at h2; omega)
              have HZ := Aside0.mk (want_facts HH5.out)
              obtain ⟨z0, z1, z2, z3, z4, q0, q1, q2, q3, q4⟩ := HZ.out
              have HLE := Aside0.mk (show (w.alloc (Obj.cells #[Value.slice a la.length cap, Value.slice a' lb.length cap', Value.int IntKind.i64 s, Value.int IntKind.i64 e] 31)).heap.size ≤ w4.heap.size by simp; have := HP.out; omega)
              go_simp
              refine hK.out _ _ (Below.setCell (p := ⟨w4.heap.size, 4, none⟩) (Below.setCell (p := ⟨w4.heap.size, 3, none⟩) (Below.setCell (p := ⟨w4.heap.size, 2, none⟩) (Below.setCell (p := ⟨w4.heap.size, 1, none⟩) (Below.setCell (p := ⟨w4.heap.size, 0, none⟩) (HB5.out) HLE.out _) HLE.out _) HLE.out _) HLE.out _) HLE.out _) (fun hS6 => ?_)
              try simp only [Act.put, List.setIfInBounds_toArray, List.set_cons_zero, List.set_cons_succ]
              refine wpAnyH_done (by kernel_rfl) ?_ _
              refine NoPanic.normal ?_
              have HBV := Aside0.mk (show (!decide (e = 0) && decide (e ≤ t)) = false by simp [HE0.out])
              have HWS := Aside0.mk (want_store HZ.out (false) (rAlB s e la lb) (statV false) (fnvL fnv0 (flatL la)))
              have HS6 := Aside0.mk hS6
              clear hS6 z0 z1 z2 z3 z4 q0 q1 q2 q3 q4
              go_wp2_with fail
              go_meet
              obtain ⟨_, rfl, hsz, g0, g1, g2, g3, g4, h1, h2⟩ := HWS.out
              exact ⟨w4.heap.size, rfl, HP.out, by first | exact HP2.out | (rw [hsz]; exact HP2.out) | (simp [World.setCell]; exact HP2.out), by rw [HBV.out]; exact g0, g1, g2, g3, g4, h1, h2, HS6.out⟩
            · exact AllReadyH.nil
          · exact AllReadyH.nil
        exact AllReadyH.nil
      refine AllReadyH.cons (o := { dst := some 5, op := Op.alloc 34, type := 0, pos := "model.go:198", after := #[], guard := none }) rfl (fun K hK => ?_) ?_
      ·
        go_simp
        refine hK.out _ _ (below_alloc HB3.out.drew _) (fun hS7 => ?_)
        try simp only [Act.put, List.setIfInBounds_toArray, List.set_cons_zero, List.set_cons_succ]
        refine wpAnyH_ready (rs := [11]) (by kernel_rfl) (by simp) ?_
        refine AllReadyH.cons (o := { dst := some 59, op := Op.call { callee := Callee.value (Operand.func 16), args := #[Operand.tmp 58], argTypes := #[22] }, type := 25, pos := "model.go:198", after := #[{ on := 10, ground := Ground.data }, { on := 3, ground := Ground.chain }], guard := none }) rfl (fun K hK => ?_) ?_
        ·
          go_simp
          go_at_call 16
          refine Calls.mono (specFinger_calls a cap la _ (HL.out.1.next (below_alloc HB3.out.drew _)) HSA.out.1) ?_
          rintro r w4 ⟨rfl, hb4⟩
          have HB4 := Aside0.mk (below_step (below_alloc HB3.out.drew _) hb4)
          have HH4 := Aside0.mk (below_step (Below.refl (w3.alloc (Obj.cells #[Value.bool false, Value.string ⟨#[]⟩, Value.string ⟨#[]⟩, Value.int IntKind.u64 0, Value.bool false] 34)).heap.size (w3.alloc (Obj.cells #[Value.bool false, Value.string ⟨#[]⟩, Value.string ⟨#[]⟩, Value.int IntKind.u64 0, Value.bool false] 34))).drew hb4)
          clear hb4
          refine hK.out _ _ HB4.out (fun hS4 => ?_)
          try simp only [Act.put, List.setIfInBounds_toArray, List.set_cons_zero, List.set_cons_succ]
          refine wpAnyH_ready (rs := [13]) (by kernel_rfl) (by simp) ?_
          refine AllReadyH.cons (o := { dst := some 61, op := Op.call { callee := Callee.value (Operand.func 19), args := #[Operand.tmp 60], argTypes := #[31] }, type := 4, pos := "model.go:198", after := #[{ on := 12, ground := Ground.data }, { on := 11, ground := Ground.chain }], guard := none }) rfl (fun K hK => ?_) ?_
          ·
            go_simp
            go_at_call 19
            refine Calls.mono (ralert_calls a a' cap cap' la lb s e _ (HL.out.1.next HB4.out) (HL.out.2.next HB4.out) HSA.out.1 HSB.out.1 (HG.out.tabs.next HB4.out)) ?_
            rintro r w5 ⟨rfl, hb5⟩
            have HB5 := Aside0.mk (below_step HB4.out hb5)
            have HH5 := Aside0.mk hb5
            clear hb5
            refine hK.out _ _ HB5.out (fun hS5 => ?_)
            try simp only [Act.put, List.setIfInBounds_toArray, List.set_cons_zero, List.set_cons_succ]
            refine wpAnyH_take (i := 14) (oi := { dst := some 62, op := Op.build 34 #[(0, Operand.tmp 56), (1, Operand.const (Value.string { data := #[102, 105, 114, 105, 110, 103] })), (3, Operand.tmp 59), (4, Operand.tmp 61)], type := 34, pos := "model.go:198", after := #[{ on := 8, ground := Ground.data }, { on := 11, ground := Ground.data }, { on := 13, ground := Ground.data }], guard := none }) (v := ?v11) rfl (by kernel_rfl) (by kernel_rfl) (by kernel_rfl) (fun _ _ _ h => h) (Or.inl ⟨by rfl, ?hy11⟩) hS5 ?rest11
            case hy11 => (intro w' hSw; obtain ⟨x0, x1, x2, x3⟩ := HKX.out _ hSw; go_simp; try with_reducible rfl)
            try simp only [Act.put, List.setIfInBounds_toArray, List.set_cons_zero, List.set_cons_succ]
            refine wpAnyH_ready (rs := [16]) (by kernel_rfl) (by simp) ?_
            refine AllReadyH.cons (o := { dst := none, op := Op.store 34 (Operand.tmp 5) (Operand.tmp 62), type := 0, pos := "model.go:198", after := #[{ on := 15, ground := Ground.data }, { on := 14, ground := Ground.data }, { on := 13, ground := Ground.chain }, { on := 0, ground := Ground.phase }, { on := 1, ground := Ground.phase }, { on := 2, ground := Ground.phase }, { on := 3, ground := Ground.phase }, { on := 4, ground := Ground.phase }, { on := 5, ground := Ground.phase }, { on := 6, ground := Ground.phase }, { on := 7, ground := Ground.phase }, { on := 8, ground := Ground.phase }, { on := 9, ground := Ground.phase }, { on := 10, ground := Ground.phase }, { on := 11, ground := Ground.phase }, { on := 12, ground := Ground.phase }, { on := 13, ground := Ground.phase }, { on := 14, ground := Ground.phase }, { on := 15, ground := Ground.phase }], guard := none }) rfl (fun K hK => ?_) ?_
            ·
              have HP := Aside0.mk (show w.heap.size < w3.heap.size by have h1 := HB3.out.size; simp at h1; omega)
              have HP2 := Aside0.mk (show w3.heap.size < w5.heap.size by have h2 := HH4.out.size; have h3 := HH5.out.size; simp at h2; omega)
              have HZ := Aside0.mk (want_facts (below_step HH4.out HH5.out))
              obtain ⟨z0, z1, z2, z3, z4, q0, q1, q2, q3, q4⟩ := HZ.out
              have HLE := Aside0.mk (show (w.alloc (Obj.cells #[Value.slice a la.length cap, Value.slice a' lb.length cap', Value.int IntKind.i64 s, Value.int IntKind.i64 e] 31)).heap.size ≤ w3.heap.size by simp; have := HP.out; omega)
              go_simp
              refine hK.out _ _ (Below.setCell (p := ⟨w3.heap.size, 4, none⟩) (Below.setCell (p := ⟨w3.heap.size, 3, none⟩) (Below.setCell (p := ⟨w3.heap.size, 2, none⟩) (Below.setCell (p := ⟨w3.heap.size, 1, none⟩) (Below.setCell (p := ⟨w3.heap.size, 0, none⟩) (HB5.out) HLE.out _) HLE.out _) HLE.out _) HLE.out _) HLE.out _) (fun hS6 => ?_)
              try simp only [Act.put, List.setIfInBounds_toArray, List.set_cons_zero, List.set_cons_succ]
              refine wpAnyH_done (by kernel_rfl) ?_ _
              refine NoPanic.normal ?_
              have HBV := Aside0.mk (show (!decide (e = 0) && decide (e ≤ t)) = false by simp [HE0.out])
              have HWS := Aside0.mk (want_store HZ.out (false) (rAlB s e la lb) (statV false) (fnvL fnv0 (flatL la)))
              have HS6 := Aside0.mk hS6
              clear hS6 z0 z1 z2 z3 z4 q0 q1 q2 q3 q4
              go_wp2_with fail
              go_meet
              obtain ⟨_, rfl, hsz, g0, g1, g2, g3, g4, h1, h2⟩ := HWS.out
              exact ⟨w3.heap.size, rfl, HP.out, by first | exact HP2.out | (rw [hsz]; exact HP2.out) | (simp [World.setCell]; exact HP2.out), by rw [HBV.out]; exact g0, g1, g2, g3, g4, h1, h2, HS6.out⟩
            · exact AllReadyH.nil
          · exact AllReadyH.nil
        · exact AllReadyH.nil
      exact AllReadyH.nil
    · have c1 : (e != 0) = true := bne_iff_ne.2 he
      have HE0 := Aside0.mk he
      clear he
      refine wp_region_held_drew (S := fun w' => Below (w.alloc (Obj.cells #[Value.slice a la.length cap, Value.slice a' lb.length cap', Value.int IntKind.i64 s, Value.int IntKind.i64 e] 31)).heap.size (w.alloc (Obj.cells #[Value.slice a la.length cap, Value.slice a' lb.length cap', Value.int IntKind.i64 s, Value.int IntKind.i64 e] 31)) w') (by kernel_rfl) hb0 (fun hS0 => ?_)
      refine wpAnyH_take (i := 0) (oi := { dst := some 48, op := Op.fieldAddr 31 (Operand.tmp 2) 3, type := 0, pos := "model.go:198", after := #[], guard := none }) (v := ?v12) rfl (by kernel_rfl) (by kernel_rfl) (by kernel_rfl) (fun _ _ _ h => h) (Or.inl ⟨by rfl, ?hy12⟩) hS0 ?rest12
      case hy12 => (intro w' hSw; obtain ⟨x0, x1, x2, x3⟩ := HKX.out _ hSw; go_simp; try with_reducible rfl)
      try simp only [Act.put, List.setIfInBounds_toArray, List.set_cons_zero, List.set_cons_succ]
      refine wpAnyH_take (i := 1) (oi := { dst := some 49, op := Op.load 2 (Operand.tmp 48), type := 2, pos := "model.go:198", after := #[{ on := 0, ground := Ground.data }], guard := none }) (v := ?v13) rfl (by kernel_rfl) (by kernel_rfl) (by kernel_rfl) (fun _ _ _ h => h) (Or.inl ⟨by rfl, ?hy13⟩) hS0 ?rest13
      case hy13 => (intro w' hSw; obtain ⟨x0, x1, x2, x3⟩ := HKX.out _ hSw; go_simp; try with_reducible rfl)
      try simp only [Act.put, List.setIfInBounds_toArray, List.set_cons_zero, List.set_cons_succ]
      refine wpAnyH_take (i := 2) (oi := { dst := some 50, op := Op.binOp BinOp.neq 2 (Operand.tmp 49) (Operand.const (Value.int IntKind.i64 0)) 2, type := 4, pos := "model.go:198", after := #[{ on := 1, ground := Ground.data }], guard := none }) (v := ?v14) rfl (by kernel_rfl) (by kernel_rfl) (by kernel_rfl) (fun _ _ _ h => h) (Or.inl ⟨by rfl, ?hy14⟩) hS0 ?rest14
      case hy14 => (intro w' hSw; obtain ⟨x0, x1, x2, x3⟩ := HKX.out _ hSw; go_simp; try with_reducible rfl)
      try simp only [Act.put, List.setIfInBounds_toArray, List.set_cons_zero, List.set_cons_succ]
      refine wpAnyH_take (i := 3) (oi := { dst := some 51, op := Op.move (Operand.tmp 50), type := 4, pos := "model.go:198", after := #[{ on := 2, ground := Ground.data }], guard := none }) (v := ?v15) rfl (by kernel_rfl) (by kernel_rfl) (by kernel_rfl) (fun _ _ _ h => h) (Or.inl ⟨by rfl, ?hy15⟩) hS0 ?rest15
      case hy15 => (intro w' hSw; obtain ⟨x0, x1, x2, x3⟩ := HKX.out _ hSw; go_simp; try with_reducible rfl)
      try simp only [Act.put, List.setIfInBounds_toArray, List.set_cons_zero, List.set_cons_succ]
      refine wpAnyH_take (i := 4) (oi := { dst := some 52, op := Op.fieldAddr 31 (Operand.tmp 2) 3, type := 0, pos := "model.go:198", after := #[{ on := 3, ground := Ground.guard }], guard := some (3, true) }) (v := ?v16) rfl (by kernel_rfl) (by kernel_rfl) (by kernel_rfl) (fun _ _ _ h => h) (Or.inl ⟨by rfl, ?hy16⟩) hS0 ?rest16
      case hy16 => (intro w' hSw; obtain ⟨x0, x1, x2, x3⟩ := HKX.out _ hSw; go_simp; try with_reducible rfl)
      try simp only [Act.put, List.setIfInBounds_toArray, List.set_cons_zero, List.set_cons_succ]
      refine wpAnyH_take (i := 5) (oi := { dst := some 53, op := Op.load 2 (Operand.tmp 52), type := 2, pos := "model.go:198", after := #[{ on := 4, ground := Ground.data }, { on := 3, ground := Ground.guard }], guard := some (3, true) }) (v := ?v17) rfl (by kernel_rfl) (by kernel_rfl) (by kernel_rfl) (fun _ _ _ h => h) (Or.inl ⟨by rfl, ?hy17⟩) hS0 ?rest17
      case hy17 => (intro w' hSw; obtain ⟨x0, x1, x2, x3⟩ := HKX.out _ hSw; go_simp; try with_reducible rfl)
      try simp only [Act.put, List.setIfInBounds_toArray, List.set_cons_zero, List.set_cons_succ]
      refine wpAnyH_take (i := 6) (oi := { dst := some 54, op := Op.move (Operand.tmp 1), type := 2, pos := "model.go:198", after := #[{ on := 3, ground := Ground.guard }], guard := some (3, true) }) (v := ?v18) rfl (by kernel_rfl) (by kernel_rfl) (by kernel_rfl) (fun _ _ _ h => h) (Or.inl ⟨by rfl, ?hy18⟩) hS0 ?rest18
      case hy18 => (intro w' hSw; obtain ⟨x0, x1, x2, x3⟩ := HKX.out _ hSw; go_simp; try with_reducible rfl)
      try simp only [Act.put, List.setIfInBounds_toArray, List.set_cons_zero, List.set_cons_succ]
      refine wpAnyH_take (i := 7) (oi := { dst := some 55, op := Op.binOp BinOp.leq 2 (Operand.tmp 53) (Operand.tmp 54) 2, type := 4, pos := "model.go:198", after := #[{ on := 5, ground := Ground.data }, { on := 6, ground := Ground.data }, { on := 3, ground := Ground.guard }], guard := some (3, true) }) (v := ?v19) rfl (by kernel_rfl) (by kernel_rfl) (by kernel_rfl) (fun _ _ _ h => h) (Or.inl ⟨by rfl, ?hy19⟩) hS0 ?rest19
      case hy19 => (intro w' hSw; obtain ⟨x0, x1, x2, x3⟩ := HKX.out _ hSw; go_simp; try with_reducible rfl)
      try simp only [Act.put, List.setIfInBounds_toArray, List.set_cons_zero, List.set_cons_succ]
      refine wpAnyH_take (i := 8) (oi := { dst := some 56, op := Op.pick (Operand.tmp 51) (Operand.tmp 55) (Operand.const (Value.bool false)), type := 4, pos := "model.go:198", after := #[{ on := 3, ground := Ground.data }, { on := 7, ground := Ground.data }], guard := none }) (v := ?v20) rfl (by kernel_rfl) (by kernel_rfl) (by kernel_rfl) (fun _ _ _ h => h) (Or.inl ⟨by rfl, ?hy20⟩) hS0 ?rest20
      case hy20 => (intro w' hSw; obtain ⟨x0, x1, x2, x3⟩ := HKX.out _ hSw; go_simp; try with_reducible rfl)
      try simp only [Act.put, List.setIfInBounds_toArray, List.set_cons_zero, List.set_cons_succ]
      refine wpAnyH_take (i := 9) (oi := { dst := some 57, op := Op.fieldAddr 31 (Operand.tmp 2) 0, type := 0, pos := "model.go:198", after := #[], guard := none }) (v := ?v21) rfl (by kernel_rfl) (by kernel_rfl) (by kernel_rfl) (fun _ _ _ h => h) (Or.inl ⟨by rfl, ?hy21⟩) hS0 ?rest21
      case hy21 => (intro w' hSw; obtain ⟨x0, x1, x2, x3⟩ := HKX.out _ hSw; go_simp; try with_reducible rfl)
      try simp only [Act.put, List.setIfInBounds_toArray, List.set_cons_zero, List.set_cons_succ]
      refine wpAnyH_take (i := 10) (oi := { dst := some 58, op := Op.load 22 (Operand.tmp 57), type := 22, pos := "model.go:198", after := #[{ on := 9, ground := Ground.data }], guard := none }) (v := ?v22) rfl (by kernel_rfl) (by kernel_rfl) (by kernel_rfl) (fun _ _ _ h => h) (Or.inl ⟨by rfl, ?hy22⟩) hS0 ?rest22
      case hy22 => (intro w' hSw; obtain ⟨x0, x1, x2, x3⟩ := HKX.out _ hSw; go_simp; try with_reducible rfl)
      try simp only [Act.put, List.setIfInBounds_toArray, List.set_cons_zero, List.set_cons_succ]
      refine wpAnyH_take (i := 12) (oi := { dst := some 60, op := Op.load 31 (Operand.tmp 2), type := 31, pos := "model.go:198", after := #[], guard := none }) (v := ?v23) rfl (by kernel_rfl) (by kernel_rfl) (by kernel_rfl) (fun _ _ _ h => h) (Or.inl ⟨by rfl, ?hy23⟩) hS0 ?rest23
      case hy23 => (intro w' hSw; obtain ⟨x0, x1, x2, x3⟩ := HKX.out _ hSw; go_simp; try with_reducible rfl)
      try simp only [Act.put, List.setIfInBounds_toArray, List.set_cons_zero, List.set_cons_succ]
      refine wpAnyH_ready (rs := [11, 15]) (by kernel_rfl) (by simp) ?_
      refine AllReadyH.cons (o := { dst := some 59, op := Op.call { callee := Callee.value (Operand.func 16), args := #[Operand.tmp 58], argTypes := #[22] }, type := 25, pos := "model.go:198", after := #[{ on := 10, ground := Ground.data }, { on := 3, ground := Ground.chain }], guard := none }) rfl (fun K hK => ?_) ?_
      ·
        go_simp
        go_at_call 16
        refine Calls.mono (specFinger_calls a cap la _ (HL.out.1.next HB3.out.drew) HSA.out.1) ?_
        rintro r w4 ⟨rfl, hb4⟩
        have HB4 := Aside0.mk (below_step HB3.out.drew hb4)
        have HH4 := Aside0.mk hb4
        clear hb4
        refine hK.out _ _ HB4.out (fun hS4 => ?_)
        try simp only [Act.put, List.setIfInBounds_toArray, List.set_cons_zero, List.set_cons_succ]
        refine wpAnyH_ready (rs := [13, 15]) (by kernel_rfl) (by simp) ?_
        refine AllReadyH.cons (o := { dst := some 61, op := Op.call { callee := Callee.value (Operand.func 19), args := #[Operand.tmp 60], argTypes := #[31] }, type := 4, pos := "model.go:198", after := #[{ on := 12, ground := Ground.data }, { on := 11, ground := Ground.chain }], guard := none }) rfl (fun K hK => ?_) ?_
        ·
          go_simp
          go_at_call 19
          refine Calls.mono (ralert_calls a a' cap cap' la lb s e _ (HL.out.1.next HB4.out) (HL.out.2.next HB4.out) HSA.out.1 HSB.out.1 (HG.out.tabs.next HB4.out)) ?_
          rintro r w5 ⟨rfl, hb5⟩
          have HB5 := Aside0.mk (below_step HB4.out hb5)
          have HH5 := Aside0.mk hb5
          clear hb5
          refine hK.out _ _ HB5.out (fun hS5 => ?_)
          try simp only [Act.put, List.setIfInBounds_toArray, List.set_cons_zero, List.set_cons_succ]
          refine wpAnyH_take (i := 14) (oi := { dst := some 62, op := Op.build 34 #[(0, Operand.tmp 56), (1, Operand.const (Value.string { data := #[102, 105, 114, 105, 110, 103] })), (3, Operand.tmp 59), (4, Operand.tmp 61)], type := 34, pos := "model.go:198", after := #[{ on := 8, ground := Ground.data }, { on := 11, ground := Ground.data }, { on := 13, ground := Ground.data }], guard := none }) (v := ?v24) rfl (by kernel_rfl) (by kernel_rfl) (by kernel_rfl) (fun _ _ _ h => h) (Or.inl ⟨by rfl, ?hy24⟩) hS5 ?rest24
          case hy24 => (intro w' hSw; obtain ⟨x0, x1, x2, x3⟩ := HKX.out _ hSw; go_simp; try with_reducible rfl)
          try simp only [Act.put, List.setIfInBounds_toArray, List.set_cons_zero, List.set_cons_succ]
          refine wpAnyH_ready (rs := [15]) (by kernel_rfl) (by simp) ?_
          refine AllReadyH.cons (o := { dst := some 5, op := Op.alloc 34, type := 0, pos := "model.go:198", after := #[], guard := none }) rfl (fun K hK => ?_) ?_
          ·
            go_simp
            refine hK.out _ _ (below_alloc HB5.out _) (fun hS7 => ?_)
            try simp only [Act.put, List.setIfInBounds_toArray, List.set_cons_zero, List.set_cons_succ]
            refine wpAnyH_ready (rs := [16]) (by kernel_rfl) (by simp) ?_
            refine AllReadyH.cons (o := { dst := none, op := Op.store 34 (Operand.tmp 5) (Operand.tmp 62), type := 0, pos := "model.go:198", after := #[{ on := 15, ground := Ground.data }, { on := 14, ground := Ground.data }, { on := 13, ground := Ground.chain }, { on := 0, ground := Ground.phase }, { on := 1, ground := Ground.phase }, { on := 2, ground := Ground.phase }, { on := 3, ground := Ground.phase }, { on := 4, ground := Ground.phase }, { on := 5, ground := Ground.phase }, { on := 6, ground := Ground.phase }, { on := 7, ground := Ground.phase }, { on := 8, ground := Ground.phase }, { on := 9, ground := Ground.phase }, { on := 10, ground := Ground.phase }, { on := 11, ground := Ground.phase }, { on := 12, ground := Ground.phase }, { on := 13, ground := Ground.phase }, { on := 14, ground := Ground.phase }, { on := 15, ground := Ground.phase }], guard := none }) rfl (fun K hK => ?_) ?_
            ·
              have HP := Aside0.mk (show w.heap.size < w5.heap.size by have h1 := HB5.out.size; simp at h1; omega)
              have HP2 := Aside0.mk (show w5.heap.size < (w5.alloc (Obj.cells #[Value.bool false, Value.string ⟨#[]⟩, Value.string ⟨#[]⟩, Value.int IntKind.u64 0, Value.bool false] 34)).heap.size by simp)
              go_simp
              refine hK.out _ _ (below_alloc HB5.out _) (fun hS6 => ?_)
              try simp only [Act.put, List.setIfInBounds_toArray, List.set_cons_zero, List.set_cons_succ]
              refine wpAnyH_done (by kernel_rfl) ?_ _
              refine NoPanic.normal ?_
              have HBV := Aside0.mk (show (!decide (e = 0) && decide (e ≤ t)) = decide (e ≤ t) by simp [HE0.out])
              have HS6 := Aside0.mk hS6
              clear hS6
              go_wp2_with fail
              go_meet
              exact ⟨w5.heap.size, rfl, HP.out, by simp, by rw [HBV.out]; simp [go_sem], by simp [go_sem]; rfl, by simp [go_sem], by simp [go_sem], by simp [go_sem], by simp [go_sem], by simp [go_sem], HS6.out⟩
            · exact AllReadyH.nil
          · exact AllReadyH.nil
        refine AllReadyH.cons (o := { dst := some 5, op := Op.alloc 34, type := 0, pos := "model.go:198", after := #[], guard := none }) rfl (fun K hK => ?_) ?_
        ·
          go_simp
          refine hK.out _ _ (below_alloc HB4.out _) (fun hS7 => ?_)
          try simp only [Act.put, List.setIfInBounds_toArray, List.set_cons_zero, List.set_cons_succ]
          refine wpAnyH_ready (rs := [13]) (by kernel_rfl) (by simp) ?_
          refine AllReadyH.cons (o := { dst := some 61, op := Op.call { callee := Callee.value (Operand.func 19), args := #[Operand.tmp 60], argTypes := #[31] }, type := 4, pos := "model.go:198", after := #[{ on := 12, ground := Ground.data }, { on := 11, ground := Ground.chain }], guard := none }) rfl (fun K hK => ?_) ?_
          ·
            go_simp
            go_at_call 19
            refine Calls.mono (ralert_calls a a' cap cap' la lb s e _ (HL.out.1.next (below_alloc HB4.out _)) (HL.out.2.next (below_alloc HB4.out _)) HSA.out.1 HSB.out.1 (HG.out.tabs.next (below_alloc HB4.out _))) ?_
            rintro r w5 ⟨rfl, hb5⟩
            have HB5 := Aside0.mk (below_step (below_alloc HB4.out _) hb5)
            have HH5 := Aside0.mk hb5
            clear hb5
            refine hK.out _ _ HB5.out (fun hS5 => ?_)
            try simp only [Act.put, List.setIfInBounds_toArray, List.set_cons_zero, List.set_cons_succ]
            refine wpAnyH_take (i := 14) (oi := { dst := some 62, op := Op.build 34 #[(0, Operand.tmp 56), (1, Operand.const (Value.string { data := #[102, 105, 114, 105, 110, 103] })), (3, Operand.tmp 59), (4, Operand.tmp 61)], type := 34, pos := "model.go:198", after := #[{ on := 8, ground := Ground.data }, { on := 11, ground := Ground.data }, { on := 13, ground := Ground.data }], guard := none }) (v := ?v25) rfl (by kernel_rfl) (by kernel_rfl) (by kernel_rfl) (fun _ _ _ h => h) (Or.inl ⟨by rfl, ?hy25⟩) hS5 ?rest25
            case hy25 => (intro w' hSw; obtain ⟨x0, x1, x2, x3⟩ := HKX.out _ hSw; go_simp; try with_reducible rfl)
            try simp only [Act.put, List.setIfInBounds_toArray, List.set_cons_zero, List.set_cons_succ]
            refine wpAnyH_ready (rs := [16]) (by kernel_rfl) (by simp) ?_
            refine AllReadyH.cons (o := { dst := none, op := Op.store 34 (Operand.tmp 5) (Operand.tmp 62), type := 0, pos := "model.go:198", after := #[{ on := 15, ground := Ground.data }, { on := 14, ground := Ground.data }, { on := 13, ground := Ground.chain }, { on := 0, ground := Ground.phase }, { on := 1, ground := Ground.phase }, { on := 2, ground := Ground.phase }, { on := 3, ground := Ground.phase }, { on := 4, ground := Ground.phase }, { on := 5, ground := Ground.phase }, { on := 6, ground := Ground.phase }, { on := 7, ground := Ground.phase }, { on := 8, ground := Ground.phase }, { on := 9, ground := Ground.phase }, { on := 10, ground := Ground.phase }, { on := 11, ground := Ground.phase }, { on := 12, ground := Ground.phase }, { on := 13, ground := Ground.phase }, { on := 14, ground := Ground.phase }, { on := 15, ground := Ground.phase }], guard := none }) rfl (fun K hK => ?_) ?_
            ·
              have HP := Aside0.mk (show w.heap.size < w4.heap.size by have h1 := HB4.out.size; simp at h1; omega)
              have HP2 := Aside0.mk (show w4.heap.size < w5.heap.size by have h2 := HH5.out.size; simp at h2; omega)
              have HZ := Aside0.mk (want_facts HH5.out)
              obtain ⟨z0, z1, z2, z3, z4, q0, q1, q2, q3, q4⟩ := HZ.out
              have HLE := Aside0.mk (show (w.alloc (Obj.cells #[Value.slice a la.length cap, Value.slice a' lb.length cap', Value.int IntKind.i64 s, Value.int IntKind.i64 e] 31)).heap.size ≤ w4.heap.size by simp; have := HP.out; omega)
              go_simp
              refine hK.out _ _ (Below.setCell (p := ⟨w4.heap.size, 4, none⟩) (Below.setCell (p := ⟨w4.heap.size, 3, none⟩) (Below.setCell (p := ⟨w4.heap.size, 2, none⟩) (Below.setCell (p := ⟨w4.heap.size, 1, none⟩) (Below.setCell (p := ⟨w4.heap.size, 0, none⟩) (HB5.out) HLE.out _) HLE.out _) HLE.out _) HLE.out _) HLE.out _) (fun hS6 => ?_)
              try simp only [Act.put, List.setIfInBounds_toArray, List.set_cons_zero, List.set_cons_succ]
              refine wpAnyH_done (by kernel_rfl) ?_ _
              refine NoPanic.normal ?_
              have HBV := Aside0.mk (show (!decide (e = 0) && decide (e ≤ t)) = decide (e ≤ t) by simp [HE0.out])
              have HWS := Aside0.mk (want_store HZ.out (decide (e ≤ t)) (rAlB s e la lb) (statV false) (fnvL fnv0 (flatL la)))
              have HS6 := Aside0.mk hS6
              clear hS6 z0 z1 z2 z3 z4 q0 q1 q2 q3 q4
              go_wp2_with fail
              go_meet
              obtain ⟨_, rfl, hsz, g0, g1, g2, g3, g4, h1, h2⟩ := HWS.out
              exact ⟨w4.heap.size, rfl, HP.out, by first | exact HP2.out | (rw [hsz]; exact HP2.out) | (simp [World.setCell]; exact HP2.out), by rw [HBV.out]; exact g0, g1, g2, g3, g4, h1, h2, HS6.out⟩
            · exact AllReadyH.nil
          · exact AllReadyH.nil
        exact AllReadyH.nil
      refine AllReadyH.cons (o := { dst := some 5, op := Op.alloc 34, type := 0, pos := "model.go:198", after := #[], guard := none }) rfl (fun K hK => ?_) ?_
      ·
        go_simp
        refine hK.out _ _ (below_alloc HB3.out.drew _) (fun hS7 => ?_)
        try simp only [Act.put, List.setIfInBounds_toArray, List.set_cons_zero, List.set_cons_succ]
        refine wpAnyH_ready (rs := [11]) (by kernel_rfl) (by simp) ?_
        refine AllReadyH.cons (o := { dst := some 59, op := Op.call { callee := Callee.value (Operand.func 16), args := #[Operand.tmp 58], argTypes := #[22] }, type := 25, pos := "model.go:198", after := #[{ on := 10, ground := Ground.data }, { on := 3, ground := Ground.chain }], guard := none }) rfl (fun K hK => ?_) ?_
        ·
          go_simp
          go_at_call 16
          refine Calls.mono (specFinger_calls a cap la _ (HL.out.1.next (below_alloc HB3.out.drew _)) HSA.out.1) ?_
          rintro r w4 ⟨rfl, hb4⟩
          have HB4 := Aside0.mk (below_step (below_alloc HB3.out.drew _) hb4)
          have HH4 := Aside0.mk (below_step (Below.refl (w3.alloc (Obj.cells #[Value.bool false, Value.string ⟨#[]⟩, Value.string ⟨#[]⟩, Value.int IntKind.u64 0, Value.bool false] 34)).heap.size (w3.alloc (Obj.cells #[Value.bool false, Value.string ⟨#[]⟩, Value.string ⟨#[]⟩, Value.int IntKind.u64 0, Value.bool false] 34))).drew hb4)
          clear hb4
          refine hK.out _ _ HB4.out (fun hS4 => ?_)
          try simp only [Act.put, List.setIfInBounds_toArray, List.set_cons_zero, List.set_cons_succ]
          refine wpAnyH_ready (rs := [13]) (by kernel_rfl) (by simp) ?_
          refine AllReadyH.cons (o := { dst := some 61, op := Op.call { callee := Callee.value (Operand.func 19), args := #[Operand.tmp 60], argTypes := #[31] }, type := 4, pos := "model.go:198", after := #[{ on := 12, ground := Ground.data }, { on := 11, ground := Ground.chain }], guard := none }) rfl (fun K hK => ?_) ?_
          ·
            go_simp
            go_at_call 19
            refine Calls.mono (ralert_calls a a' cap cap' la lb s e _ (HL.out.1.next HB4.out) (HL.out.2.next HB4.out) HSA.out.1 HSB.out.1 (HG.out.tabs.next HB4.out)) ?_
            rintro r w5 ⟨rfl, hb5⟩
            have HB5 := Aside0.mk (below_step HB4.out hb5)
            have HH5 := Aside0.mk hb5
            clear hb5
            refine hK.out _ _ HB5.out (fun hS5 => ?_)
            try simp only [Act.put, List.setIfInBounds_toArray, List.set_cons_zero, List.set_cons_succ]
            refine wpAnyH_take (i := 14) (oi := { dst := some 62, op := Op.build 34 #[(0, Operand.tmp 56), (1, Operand.const (Value.string { data := #[102, 105, 114, 105, 110, 103] })), (3, Operand.tmp 59), (4, Operand.tmp 61)], type := 34, pos := "model.go:198", after := #[{ on := 8, ground := Ground.data }, { on := 11, ground := Ground.data }, { on := 13, ground := Ground.data }], guard := none }) (v := ?v26) rfl (by kernel_rfl) (by kernel_rfl) (by kernel_rfl) (fun _ _ _ h => h) (Or.inl ⟨by rfl, ?hy26⟩) hS5 ?rest26
            case hy26 => (intro w' hSw; obtain ⟨x0, x1, x2, x3⟩ := HKX.out _ hSw; go_simp; try with_reducible rfl)
            try simp only [Act.put, List.setIfInBounds_toArray, List.set_cons_zero, List.set_cons_succ]
            refine wpAnyH_ready (rs := [16]) (by kernel_rfl) (by simp) ?_
            refine AllReadyH.cons (o := { dst := none, op := Op.store 34 (Operand.tmp 5) (Operand.tmp 62), type := 0, pos := "model.go:198", after := #[{ on := 15, ground := Ground.data }, { on := 14, ground := Ground.data }, { on := 13, ground := Ground.chain }, { on := 0, ground := Ground.phase }, { on := 1, ground := Ground.phase }, { on := 2, ground := Ground.phase }, { on := 3, ground := Ground.phase }, { on := 4, ground := Ground.phase }, { on := 5, ground := Ground.phase }, { on := 6, ground := Ground.phase }, { on := 7, ground := Ground.phase }, { on := 8, ground := Ground.phase }, { on := 9, ground := Ground.phase }, { on := 10, ground := Ground.phase }, { on := 11, ground := Ground.phase }, { on := 12, ground := Ground.phase }, { on := 13, ground := Ground.phase }, { on := 14, ground := Ground.phase }, { on := 15, ground := Ground.phase }], guard := none }) rfl (fun K hK => ?_) ?_
            ·
              have HP := Aside0.mk (show w.heap.size < w3.heap.size by have h1 := HB3.out.size; simp at h1; omega)
              have HP2 := Aside0.mk (show w3.heap.size < w5.heap.size by have h2 := HH4.out.size; have h3 := HH5.out.size; simp at h2; omega)
              have HZ := Aside0.mk (want_facts (below_step HH4.out HH5.out))
              obtain ⟨z0, z1, z2, z3, z4, q0, q1, q2, q3, q4⟩ := HZ.out
              have HLE := Aside0.mk (show (w.alloc (Obj.cells #[Value.slice a la.length cap, Value.slice a' lb.length cap', Value.int IntKind.i64 s, Value.int IntKind.i64 e] 31)).heap.size ≤ w3.heap.size by simp; have := HP.out; omega)
              go_simp
              refine hK.out _ _ (Below.setCell (p := ⟨w3.heap.size, 4, none⟩) (Below.setCell (p := ⟨w3.heap.size, 3, none⟩) (Below.setCell (p := ⟨w3.heap.size, 2, none⟩) (Below.setCell (p := ⟨w3.heap.size, 1, none⟩) (Below.setCell (p := ⟨w3.heap.size, 0, none⟩) (HB5.out) HLE.out _) HLE.out _) HLE.out _) HLE.out _) HLE.out _) (fun hS6 => ?_)
              try simp only [Act.put, List.setIfInBounds_toArray, List.set_cons_zero, List.set_cons_succ]
              refine wpAnyH_done (by kernel_rfl) ?_ _
              refine NoPanic.normal ?_
              have HBV := Aside0.mk (show (!decide (e = 0) && decide (e ≤ t)) = decide (e ≤ t) by simp [HE0.out])
              have HWS := Aside0.mk (want_store HZ.out (decide (e ≤ t)) (rAlB s e la lb) (statV false) (fnvL fnv0 (flatL la)))
              have HS6 := Aside0.mk hS6
              clear hS6 z0 z1 z2 z3 z4 q0 q1 q2 q3 q4
              go_wp2_with fail
              go_meet
              obtain ⟨_, rfl, hsz, g0, g1, g2, g3, g4, h1, h2⟩ := HWS.out
              exact ⟨w3.heap.size, rfl, HP.out, by first | exact HP2.out | (rw [hsz]; exact HP2.out) | (simp [World.setCell]; exact HP2.out), by rw [HBV.out]; exact g0, g1, g2, g3, g4, h1, h2, HS6.out⟩
            · exact AllReadyH.nil
          · exact AllReadyH.nil
        · exact AllReadyH.nil
      exact AllReadyH.nil
  case rest =>
    clear x0 x1 x2 x3
    obtain ⟨p, rfl, hp1, hp2, g0, g1, g2, g3, g4, h1, h2, hbw⟩ := hcut
    have HP := Aside0.mk (And.intro hp1 hp2)
    have HBW := Aside0.mk hbw
    clear hp1 hp2 hbw
    obtain ⟨rv, hrv⟩ : ∃ rv, (!decide (e = 0) && decide (e ≤ t)) = rv := ⟨_, rfl⟩
    rw [hrv] at g0
    have HRV := Aside0.mk hrv
    clear hrv
    have HHP := Aside0.mk (show (w.alloc (Obj.cells #[Value.slice a la.length cap, Value.slice a' lb.length cap', Value.int IntKind.i64 s, Value.int IntKind.i64 e] 31)).heap.size ≤ p by have := HP.out.1; simp; omega)
    have HX0 := Aside0.mk (HKX.out _ HBW.out)
    have y0 := HX0.out.1
    cases rv with
    | false =>
      go_wp2_with fail
      obtain ⟨W7, hW7⟩ : ∃ W7 : World, W7 = wc := ⟨_, rfl⟩
      rw [← hW7]
      have HF7 := Aside0.mk (show p < W7.heap.size ∧ W7.cell? ⟨p, 0, none⟩ = some (.bool false) ∧ W7.cell? ⟨p, 1, none⟩ = some (.string (statV false)) ∧ W7.cell? ⟨p, 2, none⟩ = some (.string ⟨#[]⟩) ∧ W7.cell? ⟨p, 3, none⟩ = some (.int .u64 (fnvL fnv0 (flatL la))) ∧ W7.cell? ⟨p, 4, none⟩ = some (.bool (rAlB s e la lb)) ∧ W7.frozen? ⟨p, 2, none⟩ = false ∧ Below (w.alloc (Obj.cells #[Value.slice a la.length cap, Value.slice a' lb.length cap', Value.int IntKind.i64 s, Value.int IntKind.i64 e] 31)).heap.size (w.alloc (Obj.cells #[Value.slice a la.length cap, Value.slice a' lb.length cap', Value.int IntKind.i64 s, Value.int IntKind.i64 e] 31)) W7 from by rw [hW7]; exact ⟨HP.out.2, g0, g1, g2, g3, g4, h2, HBW.out⟩)
      clear hW7 g0 g1 g2 g3 g4 h1 h2
      refine (specGet_calls a cap la ⟨#[97, 108, 101, 114, 116, 110, 97, 109, 101]⟩ _ (HL.out.1.next HF7.out.2.2.2.2.2.2.2) (by have := HSA.out.1.1; omega)).mono ?_
      rintro r W8 ⟨rfl, hb8⟩
      have HN := Aside0.mk (show (getL la ⟨#[97, 108, 101, 114, 116, 110, 97, 109, 101]⟩).getD ⟨#[]⟩ = anameV la from rfl)
      rw [HN.out]
      have c0 := (hb8.cell (p := ⟨p, 0, none⟩) HF7.out.1).trans HF7.out.2.1
      have c1 := (hb8.cell (p := ⟨p, 1, none⟩) HF7.out.1).trans HF7.out.2.2.1
      have c2 := (hb8.cell (p := ⟨p, 2, none⟩) HF7.out.1).trans HF7.out.2.2.2.1
      have c3 := (hb8.cell (p := ⟨p, 3, none⟩) HF7.out.1).trans HF7.out.2.2.2.2.1
      have c4 := (hb8.cell (p := ⟨p, 4, none⟩) HF7.out.1).trans HF7.out.2.2.2.2.2.1
      have k2 := (hb8.frozen (p := ⟨p, 2, none⟩) HF7.out.1).trans HF7.out.2.2.2.2.2.2.1
      have HB8 := Aside0.mk (below_step HF7.out.2.2.2.2.2.2.2 hb8)
      have HS8 := Aside0.mk (Nat.lt_of_lt_of_le HF7.out.1 hb8.size)
      obtain ⟨wn, hwn⟩ : ∃ wn, anameV la = wn := ⟨_, rfl⟩
      rw [hwn]
      obtain ⟨wf, hwf⟩ : ∃ wf, fnvL fnv0 (flatL la) = wf := ⟨_, rfl⟩
      rw [hwf] at c3
      obtain ⟨wv, hwv⟩ : ∃ wv, rAlB s e la lb = wv := ⟨_, rfl⟩
      rw [hwv] at c4
      obtain ⟨ws, hws⟩ : ∃ ws, statV false = ws := ⟨_, rfl⟩
      rw [hws] at c1
      have HEQS := Aside0.mk (And.intro hwn (And.intro hwf (And.intro hwv hws)))
      clear hb8 hwn hwf hwv hws
      go_wp2_with fail
      obtain ⟨W9, hW9⟩ : ∃ W9 : World, W9 = W8.setCell ⟨p, 2, none⟩ (.string wn) := ⟨_, rfl⟩
      rw [← hW9]
      have HB9 := Aside0.mk (show Below (w.alloc (Obj.cells #[Value.slice a la.length cap, Value.slice a' lb.length cap', Value.int IntKind.i64 s, Value.int IntKind.i64 e] 31)).heap.size (w.alloc (Obj.cells #[Value.slice a la.length cap, Value.slice a' lb.length cap', Value.int IntKind.i64 s, Value.int IntKind.i64 e] 31)) W9 from by rw [hW9]; exact Below.setCell (p := ⟨p, 2, none⟩) HB8.out HHP.out _)
      have hS9 : (fun w' : World => w'.cell? ⟨w.heap.size, 0, none⟩ = some (.slice a la.length cap) ∧ w'.cell? ⟨w.heap.size, 1, none⟩ = some (.slice a' lb.length cap') ∧ w'.cell? ⟨w.heap.size, 2, none⟩ = some (.int .i64 s) ∧ w'.cell? ⟨w.heap.size, 3, none⟩ = some (.int .i64 e) ∧ w'.cell? ⟨p, 0, none⟩ = some (.bool false) ∧ w'.cell? ⟨p, 1, none⟩ = some (.string ws) ∧ w'.cell? ⟨p, 2, none⟩ = some (.string wn) ∧ w'.cell? ⟨p, 3, none⟩ = some (.int .u64 wf) ∧ w'.cell? ⟨p, 4, none⟩ = some (.bool wv)) W9.drew := by (show _ ∧ _ ∧ _ ∧ _ ∧ _ ∧ _ ∧ _ ∧ _ ∧ _); obtain ⟨x0, x1, x2, x3⟩ := HKX.out _ HB9.out.drew; exact ⟨x0, x1, x2, x3, by rw [hW9]; simp [go_sem, c0], by rw [hW9]; simp [go_sem, c1], by rw [hW9]; simp [go_sem, c2], by rw [hW9]; simp [go_sem, c3], by rw [hW9]; simp [go_sem, c4]⟩
      have HS9 := Aside0.mk (show p < W9.heap.size from by rw [hW9]; simp [World.setCell]; exact HS8.out)
      clear hW9 c0 c1 c2 c3 c4 k2
      have HAB := Aside0.mk (show ∀ W : World, Below (w.alloc (Obj.cells #[Value.slice a la.length cap, Value.slice a' lb.length cap', Value.int IntKind.i64 s, Value.int IntKind.i64 e] 31)).heap.size (w.alloc (Obj.cells #[Value.slice a la.length cap, Value.slice a' lb.length cap', Value.int IntKind.i64 s, Value.int IntKind.i64 e] 31)) W → Calls Tryz.prog 21 #[.agg #[.slice a la.length cap, .slice a' lb.length cap', .int .i64 s, .int .i64 e], .int .i64 t] W fun r w' => r = .returned (.agg #[.bool false, .string ws, .string wn, .int .u64 wf, .bool wv]) ∧ Below W.heap.size W w' from fun W hW => by
        obtain ⟨n0, n1, n2, n3, n4, n5⟩ := HNUM.out
        have h := about_calls a a' cap cap' la lb s e t W (HL.out.1.next hW) (HL.out.2.next hW) (once_of_rise HSA.out.2) (once_of_rise HSB.out.2) HSA.out.1 HSB.out.1 (HG.out.tabs.next hW) (by omega) (by omega) (by omega) (by omega) (by omega) (by omega)
        rw [res_eq e t (by omega) (by omega), HRV.out, rAl_eq s e la lb (by omega) (by omega), fing_eq HSA.out.2, HEQS.out.1, HEQS.out.2.1, HEQS.out.2.2.1, HEQS.out.2.2.2] at h
        exact h)
      have q1 := askEq false ws wn wf wv
      have q2 := askGuard false ws wn wf wv
      go_region_held3 ((fun w' : World => w'.cell? ⟨w.heap.size, 0, none⟩ = some (.slice a la.length cap) ∧ w'.cell? ⟨w.heap.size, 1, none⟩ = some (.slice a' lb.length cap') ∧ w'.cell? ⟨w.heap.size, 2, none⟩ = some (.int .i64 s) ∧ w'.cell? ⟨w.heap.size, 3, none⟩ = some (.int .i64 e) ∧ w'.cell? ⟨p, 0, none⟩ = some (.bool false) ∧ w'.cell? ⟨p, 1, none⟩ = some (.string ws) ∧ w'.cell? ⟨p, 2, none⟩ = some (.string wn) ∧ w'.cell? ⟨p, 3, none⟩ = some (.int .u64 wf) ∧ w'.cell? ⟨p, 4, none⟩ = some (.bool wv))) (first | assumption | go_keep) (first
          | (go_at_call 12; refine Calls.mono (awake_calls _ (HG.out.glob.next HB9.out.drew)) ?_; rintro r W10 ⟨rfl, hb10⟩; have HB10 := Aside0.mk (below_step HB9.out.drew hb10); have hS10 : (fun w' : World => w'.cell? ⟨w.heap.size, 0, none⟩ = some (.slice a la.length cap) ∧ w'.cell? ⟨w.heap.size, 1, none⟩ = some (.slice a' lb.length cap') ∧ w'.cell? ⟨w.heap.size, 2, none⟩ = some (.int .i64 s) ∧ w'.cell? ⟨w.heap.size, 3, none⟩ = some (.int .i64 e) ∧ w'.cell? ⟨p, 0, none⟩ = some (.bool false) ∧ w'.cell? ⟨p, 1, none⟩ = some (.string ws) ∧ w'.cell? ⟨p, 2, none⟩ = some (.string wn) ∧ w'.cell? ⟨p, 3, none⟩ = some (.int .u64 wf) ∧ w'.cell? ⟨p, 4, none⟩ = some (.bool wv)) W10 := (by (show _ ∧ _ ∧ _ ∧ _ ∧ _ ∧ _ ∧ _ ∧ _ ∧ _); obtain ⟨x0, x1, x2, x3⟩ := HKX.out _ HB10.out; obtain ⟨_, _, _, _, d0, d1, d2, d3, d4⟩ := hS9; exact ⟨x0, x1, x2, x3, (hb10.cell (p := ⟨p, 0, none⟩) HS9.out).trans d0, (hb10.cell (p := ⟨p, 1, none⟩) HS9.out).trans d1, (hb10.cell (p := ⟨p, 2, none⟩) HS9.out).trans d2, (hb10.cell (p := ⟨p, 3, none⟩) HS9.out).trans d3, (hb10.cell (p := ⟨p, 4, none⟩) HS9.out).trans d4⟩); have HS10 := Aside0.mk (Nat.lt_of_lt_of_le HS9.out hb10.size); clear hb10)
          | (go_at_call 21; refine Calls.mono (HAB.out _ HB10.out) ?_; rintro r W11 ⟨rfl, hb11⟩; have HB11 := Aside0.mk (below_step HB10.out hb11); have hS11 : (fun w' : World => w'.cell? ⟨w.heap.size, 0, none⟩ = some (.slice a la.length cap) ∧ w'.cell? ⟨w.heap.size, 1, none⟩ = some (.slice a' lb.length cap') ∧ w'.cell? ⟨w.heap.size, 2, none⟩ = some (.int .i64 s) ∧ w'.cell? ⟨w.heap.size, 3, none⟩ = some (.int .i64 e) ∧ w'.cell? ⟨p, 0, none⟩ = some (.bool false) ∧ w'.cell? ⟨p, 1, none⟩ = some (.string ws) ∧ w'.cell? ⟨p, 2, none⟩ = some (.string wn) ∧ w'.cell? ⟨p, 3, none⟩ = some (.int .u64 wf) ∧ w'.cell? ⟨p, 4, none⟩ = some (.bool wv)) W11 := (by (show _ ∧ _ ∧ _ ∧ _ ∧ _ ∧ _ ∧ _ ∧ _ ∧ _); obtain ⟨x0, x1, x2, x3⟩ := HKX.out _ HB11.out; obtain ⟨_, _, _, _, d0, d1, d2, d3, d4⟩ := hS10; exact ⟨x0, x1, x2, x3, (hb11.cell (p := ⟨p, 0, none⟩) HS10.out).trans d0, (hb11.cell (p := ⟨p, 1, none⟩) HS10.out).trans d1, (hb11.cell (p := ⟨p, 2, none⟩) HS10.out).trans d2, (hb11.cell (p := ⟨p, 3, none⟩) HS10.out).trans d3, (hb11.cell (p := ⟨p, 4, none⟩) HS10.out).trans d4⟩); clear hb11))
      all_goals
        go_wp2_with fail
        go_ret
        exact ⟨rfl, below_step HK.out HB11.out⟩
    | true =>
      go_wp2_with fail
      obtain ⟨W7, hW7⟩ : ∃ W7 : World, W7 = wc.setCell ⟨p, 1, none⟩ (.string ⟨#[114, 101, 115, 111, 108, 118, 101, 100]⟩) := ⟨_, rfl⟩
      rw [← hW7]
      have HF7 := Aside0.mk (show p < W7.heap.size ∧ W7.cell? ⟨p, 0, none⟩ = some (.bool true) ∧ W7.cell? ⟨p, 1, none⟩ = some (.string (statV true)) ∧ W7.cell? ⟨p, 2, none⟩ = some (.string ⟨#[]⟩) ∧ W7.cell? ⟨p, 3, none⟩ = some (.int .u64 (fnvL fnv0 (flatL la))) ∧ W7.cell? ⟨p, 4, none⟩ = some (.bool (rAlB s e la lb)) ∧ W7.frozen? ⟨p, 2, none⟩ = false ∧ Below (w.alloc (Obj.cells #[Value.slice a la.length cap, Value.slice a' lb.length cap', Value.int IntKind.i64 s, Value.int IntKind.i64 e] 31)).heap.size (w.alloc (Obj.cells #[Value.slice a la.length cap, Value.slice a' lb.length cap', Value.int IntKind.i64 s, Value.int IntKind.i64 e] 31)) W7 from by rw [hW7]; exact ⟨by simp [World.setCell]; exact HP.out.2, by simp [go_sem, g0], by simp [go_sem, g1]; rfl, by simp [go_sem, g2], by simp [go_sem, g3], by simp [go_sem, g4], by simp [go_sem, h2], Below.setCell (p := ⟨p, 1, none⟩) HBW.out HHP.out _⟩)
      clear hW7 g0 g1 g2 g3 g4 h1 h2
      refine (specGet_calls a cap la ⟨#[97, 108, 101, 114, 116, 110, 97, 109, 101]⟩ _ (HL.out.1.next HF7.out.2.2.2.2.2.2.2) (by have := HSA.out.1.1; omega)).mono ?_
      rintro r W8 ⟨rfl, hb8⟩
      have HN := Aside0.mk (show (getL la ⟨#[97, 108, 101, 114, 116, 110, 97, 109, 101]⟩).getD ⟨#[]⟩ = anameV la from rfl)
      rw [HN.out]
      have c0 := (hb8.cell (p := ⟨p, 0, none⟩) HF7.out.1).trans HF7.out.2.1
      have c1 := (hb8.cell (p := ⟨p, 1, none⟩) HF7.out.1).trans HF7.out.2.2.1
      have c2 := (hb8.cell (p := ⟨p, 2, none⟩) HF7.out.1).trans HF7.out.2.2.2.1
      have c3 := (hb8.cell (p := ⟨p, 3, none⟩) HF7.out.1).trans HF7.out.2.2.2.2.1
      have c4 := (hb8.cell (p := ⟨p, 4, none⟩) HF7.out.1).trans HF7.out.2.2.2.2.2.1
      have k2 := (hb8.frozen (p := ⟨p, 2, none⟩) HF7.out.1).trans HF7.out.2.2.2.2.2.2.1
      have HB8 := Aside0.mk (below_step HF7.out.2.2.2.2.2.2.2 hb8)
      have HS8 := Aside0.mk (Nat.lt_of_lt_of_le HF7.out.1 hb8.size)
      obtain ⟨wn, hwn⟩ : ∃ wn, anameV la = wn := ⟨_, rfl⟩
      rw [hwn]
      obtain ⟨wf, hwf⟩ : ∃ wf, fnvL fnv0 (flatL la) = wf := ⟨_, rfl⟩
      rw [hwf] at c3
      obtain ⟨wv, hwv⟩ : ∃ wv, rAlB s e la lb = wv := ⟨_, rfl⟩
      rw [hwv] at c4
      obtain ⟨ws, hws⟩ : ∃ ws, statV true = ws := ⟨_, rfl⟩
      rw [hws] at c1
      have HEQS := Aside0.mk (And.intro hwn (And.intro hwf (And.intro hwv hws)))
      clear hb8 hwn hwf hwv hws
      go_wp2_with fail
      obtain ⟨W9, hW9⟩ : ∃ W9 : World, W9 = W8.setCell ⟨p, 2, none⟩ (.string wn) := ⟨_, rfl⟩
      rw [← hW9]
      have HB9 := Aside0.mk (show Below (w.alloc (Obj.cells #[Value.slice a la.length cap, Value.slice a' lb.length cap', Value.int IntKind.i64 s, Value.int IntKind.i64 e] 31)).heap.size (w.alloc (Obj.cells #[Value.slice a la.length cap, Value.slice a' lb.length cap', Value.int IntKind.i64 s, Value.int IntKind.i64 e] 31)) W9 from by rw [hW9]; exact Below.setCell (p := ⟨p, 2, none⟩) HB8.out HHP.out _)
      have hS9 : (fun w' : World => w'.cell? ⟨w.heap.size, 0, none⟩ = some (.slice a la.length cap) ∧ w'.cell? ⟨w.heap.size, 1, none⟩ = some (.slice a' lb.length cap') ∧ w'.cell? ⟨w.heap.size, 2, none⟩ = some (.int .i64 s) ∧ w'.cell? ⟨w.heap.size, 3, none⟩ = some (.int .i64 e) ∧ w'.cell? ⟨p, 0, none⟩ = some (.bool true) ∧ w'.cell? ⟨p, 1, none⟩ = some (.string ws) ∧ w'.cell? ⟨p, 2, none⟩ = some (.string wn) ∧ w'.cell? ⟨p, 3, none⟩ = some (.int .u64 wf) ∧ w'.cell? ⟨p, 4, none⟩ = some (.bool wv)) W9.drew := by (show _ ∧ _ ∧ _ ∧ _ ∧ _ ∧ _ ∧ _ ∧ _ ∧ _); obtain ⟨x0, x1, x2, x3⟩ := HKX.out _ HB9.out.drew; exact ⟨x0, x1, x2, x3, by rw [hW9]; simp [go_sem, c0], by rw [hW9]; simp [go_sem, c1], by rw [hW9]; simp [go_sem, c2], by rw [hW9]; simp [go_sem, c3], by rw [hW9]; simp [go_sem, c4]⟩
      have HS9 := Aside0.mk (show p < W9.heap.size from by rw [hW9]; simp [World.setCell]; exact HS8.out)
      clear hW9 c0 c1 c2 c3 c4 k2
      have HAB := Aside0.mk (show ∀ W : World, Below (w.alloc (Obj.cells #[Value.slice a la.length cap, Value.slice a' lb.length cap', Value.int IntKind.i64 s, Value.int IntKind.i64 e] 31)).heap.size (w.alloc (Obj.cells #[Value.slice a la.length cap, Value.slice a' lb.length cap', Value.int IntKind.i64 s, Value.int IntKind.i64 e] 31)) W → Calls Tryz.prog 21 #[.agg #[.slice a la.length cap, .slice a' lb.length cap', .int .i64 s, .int .i64 e], .int .i64 t] W fun r w' => r = .returned (.agg #[.bool true, .string ws, .string wn, .int .u64 wf, .bool wv]) ∧ Below W.heap.size W w' from fun W hW => by
        obtain ⟨n0, n1, n2, n3, n4, n5⟩ := HNUM.out
        have h := about_calls a a' cap cap' la lb s e t W (HL.out.1.next hW) (HL.out.2.next hW) (once_of_rise HSA.out.2) (once_of_rise HSB.out.2) HSA.out.1 HSB.out.1 (HG.out.tabs.next hW) (by omega) (by omega) (by omega) (by omega) (by omega) (by omega)
        rw [res_eq e t (by omega) (by omega), HRV.out, rAl_eq s e la lb (by omega) (by omega), fing_eq HSA.out.2, HEQS.out.1, HEQS.out.2.1, HEQS.out.2.2.1, HEQS.out.2.2.2] at h
        exact h)
      have q1 := askEq true ws wn wf wv
      have q2 := askGuard true ws wn wf wv
      go_region_held3 ((fun w' : World => w'.cell? ⟨w.heap.size, 0, none⟩ = some (.slice a la.length cap) ∧ w'.cell? ⟨w.heap.size, 1, none⟩ = some (.slice a' lb.length cap') ∧ w'.cell? ⟨w.heap.size, 2, none⟩ = some (.int .i64 s) ∧ w'.cell? ⟨w.heap.size, 3, none⟩ = some (.int .i64 e) ∧ w'.cell? ⟨p, 0, none⟩ = some (.bool true) ∧ w'.cell? ⟨p, 1, none⟩ = some (.string ws) ∧ w'.cell? ⟨p, 2, none⟩ = some (.string wn) ∧ w'.cell? ⟨p, 3, none⟩ = some (.int .u64 wf) ∧ w'.cell? ⟨p, 4, none⟩ = some (.bool wv))) (first | assumption | go_keep) (first
          | (go_at_call 12; refine Calls.mono (awake_calls _ (HG.out.glob.next HB9.out.drew)) ?_; rintro r W10 ⟨rfl, hb10⟩; have HB10 := Aside0.mk (below_step HB9.out.drew hb10); have hS10 : (fun w' : World => w'.cell? ⟨w.heap.size, 0, none⟩ = some (.slice a la.length cap) ∧ w'.cell? ⟨w.heap.size, 1, none⟩ = some (.slice a' lb.length cap') ∧ w'.cell? ⟨w.heap.size, 2, none⟩ = some (.int .i64 s) ∧ w'.cell? ⟨w.heap.size, 3, none⟩ = some (.int .i64 e) ∧ w'.cell? ⟨p, 0, none⟩ = some (.bool true) ∧ w'.cell? ⟨p, 1, none⟩ = some (.string ws) ∧ w'.cell? ⟨p, 2, none⟩ = some (.string wn) ∧ w'.cell? ⟨p, 3, none⟩ = some (.int .u64 wf) ∧ w'.cell? ⟨p, 4, none⟩ = some (.bool wv)) W10 := (by (show _ ∧ _ ∧ _ ∧ _ ∧ _ ∧ _ ∧ _ ∧ _ ∧ _); obtain ⟨x0, x1, x2, x3⟩ := HKX.out _ HB10.out; obtain ⟨_, _, _, _, d0, d1, d2, d3, d4⟩ := hS9; exact ⟨x0, x1, x2, x3, (hb10.cell (p := ⟨p, 0, none⟩) HS9.out).trans d0, (hb10.cell (p := ⟨p, 1, none⟩) HS9.out).trans d1, (hb10.cell (p := ⟨p, 2, none⟩) HS9.out).trans d2, (hb10.cell (p := ⟨p, 3, none⟩) HS9.out).trans d3, (hb10.cell (p := ⟨p, 4, none⟩) HS9.out).trans d4⟩); have HS10 := Aside0.mk (Nat.lt_of_lt_of_le HS9.out hb10.size); clear hb10)
          | (go_at_call 21; refine Calls.mono (HAB.out _ HB10.out) ?_; rintro r W11 ⟨rfl, hb11⟩; have HB11 := Aside0.mk (below_step HB10.out hb11); have hS11 : (fun w' : World => w'.cell? ⟨w.heap.size, 0, none⟩ = some (.slice a la.length cap) ∧ w'.cell? ⟨w.heap.size, 1, none⟩ = some (.slice a' lb.length cap') ∧ w'.cell? ⟨w.heap.size, 2, none⟩ = some (.int .i64 s) ∧ w'.cell? ⟨w.heap.size, 3, none⟩ = some (.int .i64 e) ∧ w'.cell? ⟨p, 0, none⟩ = some (.bool true) ∧ w'.cell? ⟨p, 1, none⟩ = some (.string ws) ∧ w'.cell? ⟨p, 2, none⟩ = some (.string wn) ∧ w'.cell? ⟨p, 3, none⟩ = some (.int .u64 wf) ∧ w'.cell? ⟨p, 4, none⟩ = some (.bool wv)) W11 := (by (show _ ∧ _ ∧ _ ∧ _ ∧ _ ∧ _ ∧ _ ∧ _ ∧ _); obtain ⟨x0, x1, x2, x3⟩ := HKX.out _ HB11.out; obtain ⟨_, _, _, _, d0, d1, d2, d3, d4⟩ := hS10; exact ⟨x0, x1, x2, x3, (hb11.cell (p := ⟨p, 0, none⟩) HS10.out).trans d0, (hb11.cell (p := ⟨p, 1, none⟩) HS10.out).trans d1, (hb11.cell (p := ⟨p, 2, none⟩) HS10.out).trans d2, (hb11.cell (p := ⟨p, 3, none⟩) HS10.out).trans d3, (hb11.cell (p := ⟨p, 4, none⟩) HS10.out).trans d4⟩); clear hb11))
      all_goals
        go_wp2_with fail
        go_ret
        exact ⟨rfl, below_step HK.out HB11.out⟩
end Go.Proofs.YtobbfenkdnaanaaGreatDoor
