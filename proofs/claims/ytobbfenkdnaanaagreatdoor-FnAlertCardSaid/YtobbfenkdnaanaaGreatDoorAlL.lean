/- The law FnAlert, walked: whatever the alert and the time, it answers true. -/
import Derived.Test.YtobbfenkdnaanaaGreatDoorAlF
import Derived.Test.YtobbfenkdnaanaaGreatDoorAlG
import Derived.Test.YtobbfenkdnaanaaGreatDoorLaidA
set_option linter.unusedVariables false
set_option linter.unusedSimpArgs false
namespace Go.Proofs.YtobbfenkdnaanaaGreatDoor
open Go.RowKit Go.Maps Go.WideMaps Go.Sort

theorem fits_len2 {l : LL} (h : fitsB l = true) : l.length ≤ 2147483647 := by
  unfold fitsB at h
  rw [Bool.and_eq_true] at h
  exact of_decide_eq_true h.1

set_option maxHeartbeats 2000000 in
set_option maxRecDepth 100000 in
theorem al_fit (a a' : Option Addr) (cap cap' : Nat) (la lb : LL) (s e t : Int) (w : World) (hla : Labs w a la) (hlb : Labs w a' lb) (hma : la.length ≤ 9223372036854775807) (hmb : lb.length ≤ 9223372036854775807) (hg : GlobT w) (hfit : (fitsB la && fitsB lb) = false) :
    Calls Tryz.prog 4 #[.agg #[.slice a la.length cap, .slice a' lb.length cap', .int .i64 s, .int .i64 e], .int .i64 t] w fun r w' => r = .returned (.bool true) ∧ Below w.heap.size w w' := by
  have HK := Aside0.mk (below_alloc (Below.refl w.heap.size w) (Obj.cells #[Value.slice a la.length cap, Value.slice a' lb.length cap', Value.int IntKind.i64 s, Value.int IntKind.i64 e] 31))
  have HL := Aside0.mk (And.intro (hla.next HK.out) (hlb.next HK.out))
  have HG := Aside0.mk (hg.next HK.out)
  have HKX := Aside0.mk (show ∀ w', Below (w.alloc (Obj.cells #[Value.slice a la.length cap, Value.slice a' lb.length cap', Value.int IntKind.i64 s, Value.int IntKind.i64 e] 31)).heap.size (w.alloc (Obj.cells #[Value.slice a la.length cap, Value.slice a' lb.length cap', Value.int IntKind.i64 s, Value.int IntKind.i64 e] 31)) w' → w'.cell? ⟨w.heap.size, 0, none⟩ = some (.slice a la.length cap) ∧ w'.cell? ⟨w.heap.size, 1, none⟩ = some (.slice a' lb.length cap') ∧ w'.cell? ⟨w.heap.size, 2, none⟩ = some (.int .i64 s) ∧ w'.cell? ⟨w.heap.size, 3, none⟩ = some (.int .i64 e) from fun w' hb =>
    ⟨(hb.cell (p := ⟨w.heap.size, 0, none⟩) (by simp)).trans (by simp [go_sem]), (hb.cell (p := ⟨w.heap.size, 1, none⟩) (by simp)).trans (by simp [go_sem]), (hb.cell (p := ⟨w.heap.size, 2, none⟩) (by simp)).trans (by simp [go_sem]), (hb.cell (p := ⟨w.heap.size, 3, none⟩) (by simp)).trans (by simp [go_sem])⟩)
  clear hla hlb hg
  have HFIT := Aside0.mk hfit
  clear hfit
  go_enter Tryz.func4, Tryz.ntmps4
  go_wp2_with fail
  refine (fits9_calls a a' cap cap' la lb s e _ HL.out.1 HL.out.2 hma hmb).mono ?_
  rintro r w1 ⟨rfl, hb1⟩
  rw [HFIT.out]
  have HB1 := Aside0.mk hb1
  clear hb1
  go_wp2
  go_ret
  exact ⟨rfl, below_step HK.out HB1.out⟩

set_option maxHeartbeats 2000000 in
set_option maxRecDepth 100000 in
theorem al_orda (a a' : Option Addr) (cap cap' : Nat) (la lb : LL) (s e t : Int) (w : World) (hla : Labs w a la) (hlb : Labs w a' lb) (hma : la.length ≤ 9223372036854775807) (hmb : lb.length ≤ 9223372036854775807) (hg : GlobT w) (hfit : (fitsB la && fitsB lb) = true) (hla3 : la.length ≤ 2147483647) (hlb3 : lb.length ≤ 2147483647) (hoa : ordB la = false) :
    Calls Tryz.prog 4 #[.agg #[.slice a la.length cap, .slice a' lb.length cap', .int .i64 s, .int .i64 e], .int .i64 t] w fun r w' => r = .returned (.bool true) ∧ Below w.heap.size w w' := by
  have HK := Aside0.mk (below_alloc (Below.refl w.heap.size w) (Obj.cells #[Value.slice a la.length cap, Value.slice a' lb.length cap', Value.int IntKind.i64 s, Value.int IntKind.i64 e] 31))
  have HL := Aside0.mk (And.intro (hla.next HK.out) (hlb.next HK.out))
  have HG := Aside0.mk (hg.next HK.out)
  have HKX := Aside0.mk (show ∀ w', Below (w.alloc (Obj.cells #[Value.slice a la.length cap, Value.slice a' lb.length cap', Value.int IntKind.i64 s, Value.int IntKind.i64 e] 31)).heap.size (w.alloc (Obj.cells #[Value.slice a la.length cap, Value.slice a' lb.length cap', Value.int IntKind.i64 s, Value.int IntKind.i64 e] 31)) w' → w'.cell? ⟨w.heap.size, 0, none⟩ = some (.slice a la.length cap) ∧ w'.cell? ⟨w.heap.size, 1, none⟩ = some (.slice a' lb.length cap') ∧ w'.cell? ⟨w.heap.size, 2, none⟩ = some (.int .i64 s) ∧ w'.cell? ⟨w.heap.size, 3, none⟩ = some (.int .i64 e) from fun w' hb =>
    ⟨(hb.cell (p := ⟨w.heap.size, 0, none⟩) (by simp)).trans (by simp [go_sem]), (hb.cell (p := ⟨w.heap.size, 1, none⟩) (by simp)).trans (by simp [go_sem]), (hb.cell (p := ⟨w.heap.size, 2, none⟩) (by simp)).trans (by simp [go_sem]), (hb.cell (p := ⟨w.heap.size, 3, none⟩) (by simp)).trans (by simp [go_sem])⟩)
  clear hla hlb hg
  have HFIT := Aside0.mk hfit
  have HLA := Aside0.mk hla3
  have HLB := Aside0.mk hlb3
  clear hfit hla3 hlb3
  have HOA := Aside0.mk hoa
  clear hoa
  go_enter Tryz.func4, Tryz.ntmps4
  go_wp2_with fail
  refine (fits9_calls a a' cap cap' la lb s e _ HL.out.1 HL.out.2 hma hmb).mono ?_
  rintro r w1 ⟨rfl, hb1⟩
  rw [HFIT.out]
  have HB1 := Aside0.mk hb1
  obtain ⟨x0, x1, x2, x3⟩ := HKX.out _ HB1.out
  clear hb1
  go_wp2_with fail
  refine (ordered_calls a cap la _ (HL.out.1.next HB1.out) HLA.out).mono ?_
  rintro r w2 ⟨rfl, hb2⟩
  rw [HOA.out]
  have HB2 := Aside0.mk (below_step HB1.out hb2)
  clear hb2 x0 x1 x2 x3
  go_wp2_with fail
  refine (awake_calls _ (HG.out.next HB2.out).glob).mono ?_
  rintro r w9 ⟨rfl, hb9⟩
  have HB9 := Aside0.mk (below_step HB2.out hb9)
  clear hb9
  go_wp2
  go_ret
  exact ⟨rfl, below_step HK.out HB9.out⟩

set_option maxHeartbeats 2000000 in
set_option maxRecDepth 100000 in
theorem al_ordb (a a' : Option Addr) (cap cap' : Nat) (la lb : LL) (s e t : Int) (w : World) (hla : Labs w a la) (hlb : Labs w a' lb) (hma : la.length ≤ 9223372036854775807) (hmb : lb.length ≤ 9223372036854775807) (hg : GlobT w) (hfit : (fitsB la && fitsB lb) = true) (hla3 : la.length ≤ 2147483647) (hlb3 : lb.length ≤ 2147483647) (hoa : ordB la = true) (hob : ordB lb = false) :
    Calls Tryz.prog 4 #[.agg #[.slice a la.length cap, .slice a' lb.length cap', .int .i64 s, .int .i64 e], .int .i64 t] w fun r w' => r = .returned (.bool true) ∧ Below w.heap.size w w' := by
  have HK := Aside0.mk (below_alloc (Below.refl w.heap.size w) (Obj.cells #[Value.slice a la.length cap, Value.slice a' lb.length cap', Value.int IntKind.i64 s, Value.int IntKind.i64 e] 31))
  have HL := Aside0.mk (And.intro (hla.next HK.out) (hlb.next HK.out))
  have HG := Aside0.mk (hg.next HK.out)
  have HKX := Aside0.mk (show ∀ w', Below (w.alloc (Obj.cells #[Value.slice a la.length cap, Value.slice a' lb.length cap', Value.int IntKind.i64 s, Value.int IntKind.i64 e] 31)).heap.size (w.alloc (Obj.cells #[Value.slice a la.length cap, Value.slice a' lb.length cap', Value.int IntKind.i64 s, Value.int IntKind.i64 e] 31)) w' → w'.cell? ⟨w.heap.size, 0, none⟩ = some (.slice a la.length cap) ∧ w'.cell? ⟨w.heap.size, 1, none⟩ = some (.slice a' lb.length cap') ∧ w'.cell? ⟨w.heap.size, 2, none⟩ = some (.int .i64 s) ∧ w'.cell? ⟨w.heap.size, 3, none⟩ = some (.int .i64 e) from fun w' hb =>
    ⟨(hb.cell (p := ⟨w.heap.size, 0, none⟩) (by simp)).trans (by simp [go_sem]), (hb.cell (p := ⟨w.heap.size, 1, none⟩) (by simp)).trans (by simp [go_sem]), (hb.cell (p := ⟨w.heap.size, 2, none⟩) (by simp)).trans (by simp [go_sem]), (hb.cell (p := ⟨w.heap.size, 3, none⟩) (by simp)).trans (by simp [go_sem])⟩)
  clear hla hlb hg
  have HFIT := Aside0.mk hfit
  have HLA := Aside0.mk hla3
  have HLB := Aside0.mk hlb3
  clear hfit hla3 hlb3
  have HOA := Aside0.mk hoa
  have HOB := Aside0.mk hob
  clear hoa hob
  go_enter Tryz.func4, Tryz.ntmps4
  go_wp2_with fail
  refine (fits9_calls a a' cap cap' la lb s e _ HL.out.1 HL.out.2 hma hmb).mono ?_
  rintro r w1 ⟨rfl, hb1⟩
  rw [HFIT.out]
  have HB1 := Aside0.mk hb1
  obtain ⟨x0, x1, x2, x3⟩ := HKX.out _ HB1.out
  clear hb1
  go_wp2_with fail
  refine (ordered_calls a cap la _ (HL.out.1.next HB1.out) HLA.out).mono ?_
  rintro r w2 ⟨rfl, hb2⟩
  rw [HOA.out]
  have HB2 := Aside0.mk (below_step HB1.out hb2)
  clear hb2 x0 x1 x2 x3
  obtain ⟨x0, x1, x2, x3⟩ := HKX.out _ HB2.out
  go_wp2_with fail
  refine (ordered_calls a' cap' lb _ (HL.out.2.next HB2.out) HLB.out).mono ?_
  rintro r w3 ⟨rfl, hb3⟩
  rw [HOB.out]
  have HB3 := Aside0.mk (below_step HB2.out hb3)
  clear hb3 x0 x1 x2 x3
  obtain ⟨x0, x1, x2, x3⟩ := HKX.out _ HB3.out
  go_wp2_with fail
  refine (awake_calls _ (HG.out.next HB3.out).glob).mono ?_
  rintro r w9 ⟨rfl, hb9⟩
  have HB9 := Aside0.mk (below_step HB3.out hb9)
  clear hb9
  go_wp2
  go_ret
  exact ⟨rfl, below_step HK.out HB9.out⟩

set_option maxHeartbeats 2000000 in
set_option maxRecDepth 100000 in
theorem al_num0 (a a' : Option Addr) (cap cap' : Nat) (la lb : LL) (s e t : Int) (w : World) (hla : Labs w a la) (hlb : Labs w a' lb) (hma : la.length ≤ 9223372036854775807) (hmb : lb.length ≤ 9223372036854775807) (hg : GlobT w) (hfit : (fitsB la && fitsB lb) = true) (hla3 : la.length ≤ 2147483647) (hlb3 : lb.length ≤ 2147483647) (hoa : ordB la = true) (hob : ordB lb = true) (d0 : decide (s < 0) = true) :
    Calls Tryz.prog 4 #[.agg #[.slice a la.length cap, .slice a' lb.length cap', .int .i64 s, .int .i64 e], .int .i64 t] w fun r w' => r = .returned (.bool true) ∧ Below w.heap.size w w' := by
  have HK := Aside0.mk (below_alloc (Below.refl w.heap.size w) (Obj.cells #[Value.slice a la.length cap, Value.slice a' lb.length cap', Value.int IntKind.i64 s, Value.int IntKind.i64 e] 31))
  have HL := Aside0.mk (And.intro (hla.next HK.out) (hlb.next HK.out))
  have HG := Aside0.mk (hg.next HK.out)
  have HKX := Aside0.mk (show ∀ w', Below (w.alloc (Obj.cells #[Value.slice a la.length cap, Value.slice a' lb.length cap', Value.int IntKind.i64 s, Value.int IntKind.i64 e] 31)).heap.size (w.alloc (Obj.cells #[Value.slice a la.length cap, Value.slice a' lb.length cap', Value.int IntKind.i64 s, Value.int IntKind.i64 e] 31)) w' → w'.cell? ⟨w.heap.size, 0, none⟩ = some (.slice a la.length cap) ∧ w'.cell? ⟨w.heap.size, 1, none⟩ = some (.slice a' lb.length cap') ∧ w'.cell? ⟨w.heap.size, 2, none⟩ = some (.int .i64 s) ∧ w'.cell? ⟨w.heap.size, 3, none⟩ = some (.int .i64 e) from fun w' hb =>
    ⟨(hb.cell (p := ⟨w.heap.size, 0, none⟩) (by simp)).trans (by simp [go_sem]), (hb.cell (p := ⟨w.heap.size, 1, none⟩) (by simp)).trans (by simp [go_sem]), (hb.cell (p := ⟨w.heap.size, 2, none⟩) (by simp)).trans (by simp [go_sem]), (hb.cell (p := ⟨w.heap.size, 3, none⟩) (by simp)).trans (by simp [go_sem])⟩)
  clear hla hlb hg
  have HFIT := Aside0.mk hfit
  have HLA := Aside0.mk hla3
  have HLB := Aside0.mk hlb3
  clear hfit hla3 hlb3
  have HOA := Aside0.mk hoa
  have HOB := Aside0.mk hob
  clear hoa hob
  go_enter Tryz.func4, Tryz.ntmps4
  go_wp2_with fail
  refine (fits9_calls a a' cap cap' la lb s e _ HL.out.1 HL.out.2 hma hmb).mono ?_
  rintro r w1 ⟨rfl, hb1⟩
  rw [HFIT.out]
  have HB1 := Aside0.mk hb1
  obtain ⟨x0, x1, x2, x3⟩ := HKX.out _ HB1.out
  clear hb1
  go_wp2_with fail
  refine (ordered_calls a cap la _ (HL.out.1.next HB1.out) HLA.out).mono ?_
  rintro r w2 ⟨rfl, hb2⟩
  rw [HOA.out]
  have HB2 := Aside0.mk (below_step HB1.out hb2)
  clear hb2 x0 x1 x2 x3
  obtain ⟨x0, x1, x2, x3⟩ := HKX.out _ HB2.out
  go_wp2_with fail
  refine (ordered_calls a' cap' lb _ (HL.out.2.next HB2.out) HLB.out).mono ?_
  rintro r w3 ⟨rfl, hb3⟩
  rw [HOB.out]
  have HB3 := Aside0.mk (below_step HB2.out hb3)
  clear hb3 x0 x1 x2 x3
  obtain ⟨x0, x1, x2, x3⟩ := HKX.out _ HB3.out
  go_wp2_with fail
  refine (awake_calls _ (HG.out.next HB3.out).glob).mono ?_
  rintro r w9 ⟨rfl, hb9⟩
  have HB9 := Aside0.mk (below_step HB3.out hb9)
  clear hb9
  go_wp2
  go_ret
  exact ⟨rfl, below_step HK.out HB9.out⟩

set_option maxHeartbeats 2000000 in
set_option maxRecDepth 100000 in
theorem al_num1 (a a' : Option Addr) (cap cap' : Nat) (la lb : LL) (s e t : Int) (w : World) (hla : Labs w a la) (hlb : Labs w a' lb) (hma : la.length ≤ 9223372036854775807) (hmb : lb.length ≤ 9223372036854775807) (hg : GlobT w) (hfit : (fitsB la && fitsB lb) = true) (hla3 : la.length ≤ 2147483647) (hlb3 : lb.length ≤ 2147483647) (hoa : ordB la = true) (hob : ordB lb = true) (d0 : decide (s < 0) = false) (d1 : decide (8589934592 < s) = true) :
    Calls Tryz.prog 4 #[.agg #[.slice a la.length cap, .slice a' lb.length cap', .int .i64 s, .int .i64 e], .int .i64 t] w fun r w' => r = .returned (.bool true) ∧ Below w.heap.size w w' := by
  have HK := Aside0.mk (below_alloc (Below.refl w.heap.size w) (Obj.cells #[Value.slice a la.length cap, Value.slice a' lb.length cap', Value.int IntKind.i64 s, Value.int IntKind.i64 e] 31))
  have HL := Aside0.mk (And.intro (hla.next HK.out) (hlb.next HK.out))
  have HG := Aside0.mk (hg.next HK.out)
  have HKX := Aside0.mk (show ∀ w', Below (w.alloc (Obj.cells #[Value.slice a la.length cap, Value.slice a' lb.length cap', Value.int IntKind.i64 s, Value.int IntKind.i64 e] 31)).heap.size (w.alloc (Obj.cells #[Value.slice a la.length cap, Value.slice a' lb.length cap', Value.int IntKind.i64 s, Value.int IntKind.i64 e] 31)) w' → w'.cell? ⟨w.heap.size, 0, none⟩ = some (.slice a la.length cap) ∧ w'.cell? ⟨w.heap.size, 1, none⟩ = some (.slice a' lb.length cap') ∧ w'.cell? ⟨w.heap.size, 2, none⟩ = some (.int .i64 s) ∧ w'.cell? ⟨w.heap.size, 3, none⟩ = some (.int .i64 e) from fun w' hb =>
    ⟨(hb.cell (p := ⟨w.heap.size, 0, none⟩) (by simp)).trans (by simp [go_sem]), (hb.cell (p := ⟨w.heap.size, 1, none⟩) (by simp)).trans (by simp [go_sem]), (hb.cell (p := ⟨w.heap.size, 2, none⟩) (by simp)).trans (by simp [go_sem]), (hb.cell (p := ⟨w.heap.size, 3, none⟩) (by simp)).trans (by simp [go_sem])⟩)
  clear hla hlb hg
  have HFIT := Aside0.mk hfit
  have HLA := Aside0.mk hla3
  have HLB := Aside0.mk hlb3
  clear hfit hla3 hlb3
  have HOA := Aside0.mk hoa
  have HOB := Aside0.mk hob
  clear hoa hob
  go_enter Tryz.func4, Tryz.ntmps4
  go_wp2_with fail
  refine (fits9_calls a a' cap cap' la lb s e _ HL.out.1 HL.out.2 hma hmb).mono ?_
  rintro r w1 ⟨rfl, hb1⟩
  rw [HFIT.out]
  have HB1 := Aside0.mk hb1
  obtain ⟨x0, x1, x2, x3⟩ := HKX.out _ HB1.out
  clear hb1
  go_wp2_with fail
  refine (ordered_calls a cap la _ (HL.out.1.next HB1.out) HLA.out).mono ?_
  rintro r w2 ⟨rfl, hb2⟩
  rw [HOA.out]
  have HB2 := Aside0.mk (below_step HB1.out hb2)
  clear hb2 x0 x1 x2 x3
  obtain ⟨x0, x1, x2, x3⟩ := HKX.out _ HB2.out
  go_wp2_with fail
  refine (ordered_calls a' cap' lb _ (HL.out.2.next HB2.out) HLB.out).mono ?_
  rintro r w3 ⟨rfl, hb3⟩
  rw [HOB.out]
  have HB3 := Aside0.mk (below_step HB2.out hb3)
  clear hb3 x0 x1 x2 x3
  obtain ⟨x0, x1, x2, x3⟩ := HKX.out _ HB3.out
  go_wp2_with fail
  refine (awake_calls _ (HG.out.next HB3.out).glob).mono ?_
  rintro r w9 ⟨rfl, hb9⟩
  have HB9 := Aside0.mk (below_step HB3.out hb9)
  clear hb9
  go_wp2
  go_ret
  exact ⟨rfl, below_step HK.out HB9.out⟩

set_option maxHeartbeats 2000000 in
set_option maxRecDepth 100000 in
theorem al_num2 (a a' : Option Addr) (cap cap' : Nat) (la lb : LL) (s e t : Int) (w : World) (hla : Labs w a la) (hlb : Labs w a' lb) (hma : la.length ≤ 9223372036854775807) (hmb : lb.length ≤ 9223372036854775807) (hg : GlobT w) (hfit : (fitsB la && fitsB lb) = true) (hla3 : la.length ≤ 2147483647) (hlb3 : lb.length ≤ 2147483647) (hoa : ordB la = true) (hob : ordB lb = true) (d0 : decide (s < 0) = false) (d1 : decide (8589934592 < s) = false) (d2 : decide (e < 0) = true) :
    Calls Tryz.prog 4 #[.agg #[.slice a la.length cap, .slice a' lb.length cap', .int .i64 s, .int .i64 e], .int .i64 t] w fun r w' => r = .returned (.bool true) ∧ Below w.heap.size w w' := by
  have HK := Aside0.mk (below_alloc (Below.refl w.heap.size w) (Obj.cells #[Value.slice a la.length cap, Value.slice a' lb.length cap', Value.int IntKind.i64 s, Value.int IntKind.i64 e] 31))
  have HL := Aside0.mk (And.intro (hla.next HK.out) (hlb.next HK.out))
  have HG := Aside0.mk (hg.next HK.out)
  have HKX := Aside0.mk (show ∀ w', Below (w.alloc (Obj.cells #[Value.slice a la.length cap, Value.slice a' lb.length cap', Value.int IntKind.i64 s, Value.int IntKind.i64 e] 31)).heap.size (w.alloc (Obj.cells #[Value.slice a la.length cap, Value.slice a' lb.length cap', Value.int IntKind.i64 s, Value.int IntKind.i64 e] 31)) w' → w'.cell? ⟨w.heap.size, 0, none⟩ = some (.slice a la.length cap) ∧ w'.cell? ⟨w.heap.size, 1, none⟩ = some (.slice a' lb.length cap') ∧ w'.cell? ⟨w.heap.size, 2, none⟩ = some (.int .i64 s) ∧ w'.cell? ⟨w.heap.size, 3, none⟩ = some (.int .i64 e) from fun w' hb =>
    ⟨(hb.cell (p := ⟨w.heap.size, 0, none⟩) (by simp)).trans (by simp [go_sem]), (hb.cell (p := ⟨w.heap.size, 1, none⟩) (by simp)).trans (by simp [go_sem]), (hb.cell (p := ⟨w.heap.size, 2, none⟩) (by simp)).trans (by simp [go_sem]), (hb.cell (p := ⟨w.heap.size, 3, none⟩) (by simp)).trans (by simp [go_sem])⟩)
  clear hla hlb hg
  have HFIT := Aside0.mk hfit
  have HLA := Aside0.mk hla3
  have HLB := Aside0.mk hlb3
  clear hfit hla3 hlb3
  have HOA := Aside0.mk hoa
  have HOB := Aside0.mk hob
  clear hoa hob
  go_enter Tryz.func4, Tryz.ntmps4
  go_wp2_with fail
  refine (fits9_calls a a' cap cap' la lb s e _ HL.out.1 HL.out.2 hma hmb).mono ?_
  rintro r w1 ⟨rfl, hb1⟩
  rw [HFIT.out]
  have HB1 := Aside0.mk hb1
  obtain ⟨x0, x1, x2, x3⟩ := HKX.out _ HB1.out
  clear hb1
  go_wp2_with fail
  refine (ordered_calls a cap la _ (HL.out.1.next HB1.out) HLA.out).mono ?_
  rintro r w2 ⟨rfl, hb2⟩
  rw [HOA.out]
  have HB2 := Aside0.mk (below_step HB1.out hb2)
  clear hb2 x0 x1 x2 x3
  obtain ⟨x0, x1, x2, x3⟩ := HKX.out _ HB2.out
  go_wp2_with fail
  refine (ordered_calls a' cap' lb _ (HL.out.2.next HB2.out) HLB.out).mono ?_
  rintro r w3 ⟨rfl, hb3⟩
  rw [HOB.out]
  have HB3 := Aside0.mk (below_step HB2.out hb3)
  clear hb3 x0 x1 x2 x3
  obtain ⟨x0, x1, x2, x3⟩ := HKX.out _ HB3.out
  go_wp2_with fail
  refine (awake_calls _ (HG.out.next HB3.out).glob).mono ?_
  rintro r w9 ⟨rfl, hb9⟩
  have HB9 := Aside0.mk (below_step HB3.out hb9)
  clear hb9
  go_wp2
  go_ret
  exact ⟨rfl, below_step HK.out HB9.out⟩

set_option maxHeartbeats 2000000 in
set_option maxRecDepth 100000 in
theorem al_num3 (a a' : Option Addr) (cap cap' : Nat) (la lb : LL) (s e t : Int) (w : World) (hla : Labs w a la) (hlb : Labs w a' lb) (hma : la.length ≤ 9223372036854775807) (hmb : lb.length ≤ 9223372036854775807) (hg : GlobT w) (hfit : (fitsB la && fitsB lb) = true) (hla3 : la.length ≤ 2147483647) (hlb3 : lb.length ≤ 2147483647) (hoa : ordB la = true) (hob : ordB lb = true) (d0 : decide (s < 0) = false) (d1 : decide (8589934592 < s) = false) (d2 : decide (e < 0) = false) (d3 : decide (8589934592 < e) = true) :
    Calls Tryz.prog 4 #[.agg #[.slice a la.length cap, .slice a' lb.length cap', .int .i64 s, .int .i64 e], .int .i64 t] w fun r w' => r = .returned (.bool true) ∧ Below w.heap.size w w' := by
  have HK := Aside0.mk (below_alloc (Below.refl w.heap.size w) (Obj.cells #[Value.slice a la.length cap, Value.slice a' lb.length cap', Value.int IntKind.i64 s, Value.int IntKind.i64 e] 31))
  have HL := Aside0.mk (And.intro (hla.next HK.out) (hlb.next HK.out))
  have HG := Aside0.mk (hg.next HK.out)
  have HKX := Aside0.mk (show ∀ w', Below (w.alloc (Obj.cells #[Value.slice a la.length cap, Value.slice a' lb.length cap', Value.int IntKind.i64 s, Value.int IntKind.i64 e] 31)).heap.size (w.alloc (Obj.cells #[Value.slice a la.length cap, Value.slice a' lb.length cap', Value.int IntKind.i64 s, Value.int IntKind.i64 e] 31)) w' → w'.cell? ⟨w.heap.size, 0, none⟩ = some (.slice a la.length cap) ∧ w'.cell? ⟨w.heap.size, 1, none⟩ = some (.slice a' lb.length cap') ∧ w'.cell? ⟨w.heap.size, 2, none⟩ = some (.int .i64 s) ∧ w'.cell? ⟨w.heap.size, 3, none⟩ = some (.int .i64 e) from fun w' hb =>
    ⟨(hb.cell (p := ⟨w.heap.size, 0, none⟩) (by simp)).trans (by simp [go_sem]), (hb.cell (p := ⟨w.heap.size, 1, none⟩) (by simp)).trans (by simp [go_sem]), (hb.cell (p := ⟨w.heap.size, 2, none⟩) (by simp)).trans (by simp [go_sem]), (hb.cell (p := ⟨w.heap.size, 3, none⟩) (by simp)).trans (by simp [go_sem])⟩)
  clear hla hlb hg
  have HFIT := Aside0.mk hfit
  have HLA := Aside0.mk hla3
  have HLB := Aside0.mk hlb3
  clear hfit hla3 hlb3
  have HOA := Aside0.mk hoa
  have HOB := Aside0.mk hob
  clear hoa hob
  go_enter Tryz.func4, Tryz.ntmps4
  go_wp2_with fail
  refine (fits9_calls a a' cap cap' la lb s e _ HL.out.1 HL.out.2 hma hmb).mono ?_
  rintro r w1 ⟨rfl, hb1⟩
  rw [HFIT.out]
  have HB1 := Aside0.mk hb1
  obtain ⟨x0, x1, x2, x3⟩ := HKX.out _ HB1.out
  clear hb1
  go_wp2_with fail
  refine (ordered_calls a cap la _ (HL.out.1.next HB1.out) HLA.out).mono ?_
  rintro r w2 ⟨rfl, hb2⟩
  rw [HOA.out]
  have HB2 := Aside0.mk (below_step HB1.out hb2)
  clear hb2 x0 x1 x2 x3
  obtain ⟨x0, x1, x2, x3⟩ := HKX.out _ HB2.out
  go_wp2_with fail
  refine (ordered_calls a' cap' lb _ (HL.out.2.next HB2.out) HLB.out).mono ?_
  rintro r w3 ⟨rfl, hb3⟩
  rw [HOB.out]
  have HB3 := Aside0.mk (below_step HB2.out hb3)
  clear hb3 x0 x1 x2 x3
  obtain ⟨x0, x1, x2, x3⟩ := HKX.out _ HB3.out
  go_wp2_with fail
  refine (awake_calls _ (HG.out.next HB3.out).glob).mono ?_
  rintro r w9 ⟨rfl, hb9⟩
  have HB9 := Aside0.mk (below_step HB3.out hb9)
  clear hb9
  go_wp2
  go_ret
  exact ⟨rfl, below_step HK.out HB9.out⟩

set_option maxHeartbeats 2000000 in
set_option maxRecDepth 100000 in
theorem al_num4 (a a' : Option Addr) (cap cap' : Nat) (la lb : LL) (s e t : Int) (w : World) (hla : Labs w a la) (hlb : Labs w a' lb) (hma : la.length ≤ 9223372036854775807) (hmb : lb.length ≤ 9223372036854775807) (hg : GlobT w) (hfit : (fitsB la && fitsB lb) = true) (hla3 : la.length ≤ 2147483647) (hlb3 : lb.length ≤ 2147483647) (hoa : ordB la = true) (hob : ordB lb = true) (d0 : decide (s < 0) = false) (d1 : decide (8589934592 < s) = false) (d2 : decide (e < 0) = false) (d3 : decide (8589934592 < e) = false) (d4 : decide (t < 1) = true) :
    Calls Tryz.prog 4 #[.agg #[.slice a la.length cap, .slice a' lb.length cap', .int .i64 s, .int .i64 e], .int .i64 t] w fun r w' => r = .returned (.bool true) ∧ Below w.heap.size w w' := by
  have HK := Aside0.mk (below_alloc (Below.refl w.heap.size w) (Obj.cells #[Value.slice a la.length cap, Value.slice a' lb.length cap', Value.int IntKind.i64 s, Value.int IntKind.i64 e] 31))
  have HL := Aside0.mk (And.intro (hla.next HK.out) (hlb.next HK.out))
  have HG := Aside0.mk (hg.next HK.out)
  have HKX := Aside0.mk (show ∀ w', Below (w.alloc (Obj.cells #[Value.slice a la.length cap, Value.slice a' lb.length cap', Value.int IntKind.i64 s, Value.int IntKind.i64 e] 31)).heap.size (w.alloc (Obj.cells #[Value.slice a la.length cap, Value.slice a' lb.length cap', Value.int IntKind.i64 s, Value.int IntKind.i64 e] 31)) w' → w'.cell? ⟨w.heap.size, 0, none⟩ = some (.slice a la.length cap) ∧ w'.cell? ⟨w.heap.size, 1, none⟩ = some (.slice a' lb.length cap') ∧ w'.cell? ⟨w.heap.size, 2, none⟩ = some (.int .i64 s) ∧ w'.cell? ⟨w.heap.size, 3, none⟩ = some (.int .i64 e) from fun w' hb =>
    ⟨(hb.cell (p := ⟨w.heap.size, 0, none⟩) (by simp)).trans (by simp [go_sem]), (hb.cell (p := ⟨w.heap.size, 1, none⟩) (by simp)).trans (by simp [go_sem]), (hb.cell (p := ⟨w.heap.size, 2, none⟩) (by simp)).trans (by simp [go_sem]), (hb.cell (p := ⟨w.heap.size, 3, none⟩) (by simp)).trans (by simp [go_sem])⟩)
  clear hla hlb hg
  have HFIT := Aside0.mk hfit
  have HLA := Aside0.mk hla3
  have HLB := Aside0.mk hlb3
  clear hfit hla3 hlb3
  have HOA := Aside0.mk hoa
  have HOB := Aside0.mk hob
  clear hoa hob
  go_enter Tryz.func4, Tryz.ntmps4
  go_wp2_with fail
  refine (fits9_calls a a' cap cap' la lb s e _ HL.out.1 HL.out.2 hma hmb).mono ?_
  rintro r w1 ⟨rfl, hb1⟩
  rw [HFIT.out]
  have HB1 := Aside0.mk hb1
  obtain ⟨x0, x1, x2, x3⟩ := HKX.out _ HB1.out
  clear hb1
  go_wp2_with fail
  refine (ordered_calls a cap la _ (HL.out.1.next HB1.out) HLA.out).mono ?_
  rintro r w2 ⟨rfl, hb2⟩
  rw [HOA.out]
  have HB2 := Aside0.mk (below_step HB1.out hb2)
  clear hb2 x0 x1 x2 x3
  obtain ⟨x0, x1, x2, x3⟩ := HKX.out _ HB2.out
  go_wp2_with fail
  refine (ordered_calls a' cap' lb _ (HL.out.2.next HB2.out) HLB.out).mono ?_
  rintro r w3 ⟨rfl, hb3⟩
  rw [HOB.out]
  have HB3 := Aside0.mk (below_step HB2.out hb3)
  clear hb3 x0 x1 x2 x3
  obtain ⟨x0, x1, x2, x3⟩ := HKX.out _ HB3.out
  go_wp2_with fail
  refine (awake_calls _ (HG.out.next HB3.out).glob).mono ?_
  rintro r w9 ⟨rfl, hb9⟩
  have HB9 := Aside0.mk (below_step HB3.out hb9)
  clear hb9
  go_wp2
  go_ret
  exact ⟨rfl, below_step HK.out HB9.out⟩

set_option maxHeartbeats 2000000 in
set_option maxRecDepth 100000 in
theorem al_num5 (a a' : Option Addr) (cap cap' : Nat) (la lb : LL) (s e t : Int) (w : World) (hla : Labs w a la) (hlb : Labs w a' lb) (hma : la.length ≤ 9223372036854775807) (hmb : lb.length ≤ 9223372036854775807) (hg : GlobT w) (hfit : (fitsB la && fitsB lb) = true) (hla3 : la.length ≤ 2147483647) (hlb3 : lb.length ≤ 2147483647) (hoa : ordB la = true) (hob : ordB lb = true) (d0 : decide (s < 0) = false) (d1 : decide (8589934592 < s) = false) (d2 : decide (e < 0) = false) (d3 : decide (8589934592 < e) = false) (d4 : decide (t < 1) = false) (d5 : decide (8589934592 < t) = true) :
    Calls Tryz.prog 4 #[.agg #[.slice a la.length cap, .slice a' lb.length cap', .int .i64 s, .int .i64 e], .int .i64 t] w fun r w' => r = .returned (.bool true) ∧ Below w.heap.size w w' := by
  have HK := Aside0.mk (below_alloc (Below.refl w.heap.size w) (Obj.cells #[Value.slice a la.length cap, Value.slice a' lb.length cap', Value.int IntKind.i64 s, Value.int IntKind.i64 e] 31))
  have HL := Aside0.mk (And.intro (hla.next HK.out) (hlb.next HK.out))
  have HG := Aside0.mk (hg.next HK.out)
  have HKX := Aside0.mk (show ∀ w', Below (w.alloc (Obj.cells #[Value.slice a la.length cap, Value.slice a' lb.length cap', Value.int IntKind.i64 s, Value.int IntKind.i64 e] 31)).heap.size (w.alloc (Obj.cells #[Value.slice a la.length cap, Value.slice a' lb.length cap', Value.int IntKind.i64 s, Value.int IntKind.i64 e] 31)) w' → w'.cell? ⟨w.heap.size, 0, none⟩ = some (.slice a la.length cap) ∧ w'.cell? ⟨w.heap.size, 1, none⟩ = some (.slice a' lb.length cap') ∧ w'.cell? ⟨w.heap.size, 2, none⟩ = some (.int .i64 s) ∧ w'.cell? ⟨w.heap.size, 3, none⟩ = some (.int .i64 e) from fun w' hb =>
    ⟨(hb.cell (p := ⟨w.heap.size, 0, none⟩) (by simp)).trans (by simp [go_sem]), (hb.cell (p := ⟨w.heap.size, 1, none⟩) (by simp)).trans (by simp [go_sem]), (hb.cell (p := ⟨w.heap.size, 2, none⟩) (by simp)).trans (by simp [go_sem]), (hb.cell (p := ⟨w.heap.size, 3, none⟩) (by simp)).trans (by simp [go_sem])⟩)
  clear hla hlb hg
  have HFIT := Aside0.mk hfit
  have HLA := Aside0.mk hla3
  have HLB := Aside0.mk hlb3
  clear hfit hla3 hlb3
  have HOA := Aside0.mk hoa
  have HOB := Aside0.mk hob
  clear hoa hob
  go_enter Tryz.func4, Tryz.ntmps4
  go_wp2_with fail
  refine (fits9_calls a a' cap cap' la lb s e _ HL.out.1 HL.out.2 hma hmb).mono ?_
  rintro r w1 ⟨rfl, hb1⟩
  rw [HFIT.out]
  have HB1 := Aside0.mk hb1
  obtain ⟨x0, x1, x2, x3⟩ := HKX.out _ HB1.out
  clear hb1
  go_wp2_with fail
  refine (ordered_calls a cap la _ (HL.out.1.next HB1.out) HLA.out).mono ?_
  rintro r w2 ⟨rfl, hb2⟩
  rw [HOA.out]
  have HB2 := Aside0.mk (below_step HB1.out hb2)
  clear hb2 x0 x1 x2 x3
  obtain ⟨x0, x1, x2, x3⟩ := HKX.out _ HB2.out
  go_wp2_with fail
  refine (ordered_calls a' cap' lb _ (HL.out.2.next HB2.out) HLB.out).mono ?_
  rintro r w3 ⟨rfl, hb3⟩
  rw [HOB.out]
  have HB3 := Aside0.mk (below_step HB2.out hb3)
  clear hb3 x0 x1 x2 x3
  obtain ⟨x0, x1, x2, x3⟩ := HKX.out _ HB3.out
  go_wp2_with fail
  refine (awake_calls _ (HG.out.next HB3.out).glob).mono ?_
  rintro r w9 ⟨rfl, hb9⟩
  have HB9 := Aside0.mk (below_step HB3.out hb9)
  clear hb9
  go_wp2
  go_ret
  exact ⟨rfl, below_step HK.out HB9.out⟩

end Go.Proofs.YtobbfenkdnaanaaGreatDoor
