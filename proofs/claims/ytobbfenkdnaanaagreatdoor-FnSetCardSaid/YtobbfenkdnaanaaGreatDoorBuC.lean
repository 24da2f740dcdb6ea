/- A bytes.Buffer over a row that is its own, the row's kind left open: Len, tryGrowByReslice, growSlice, grow, by contract. A bytes.Buffer over a row that is its own: grow, by contract; what a write leaves. A bytes.Buffer over a row that is its own: WriteByte, WriteString, Write, AvailableBuffer, String, by contract. -/
import Derived.Test.YtobbfenkdnaanaaGreatDoorHxB
import Derived.Defers
import Derived.Recover
import Derived.Lib.AppendZeros
import Derived.Lib.Walk
import Derived.Lib.Buffer
import Derived.Lib.ByteType
import Derived.Lib.BufferGrow
import Derived.Lib.Hide
import Derived.Laws.CopyRow
import Derived.Laws.IdiomCopy
import Derived.Deep.RegionWith
import Derived.RegionTactic
import Derived.Shelf.RegionOpenPlain
import Derived.BigCall
import Derived.BigGuard
import Derived.Lib.BufferWrite
import Derived.Lib.BufferSrc
import Derived.Lib.LazyBuf
import Derived.Lib.Quote
set_option linter.unusedVariables false
set_option linter.unusedSimpArgs false
namespace Go.Proofs.YtobbfenkdnaanaaGreatDoor
open Go.RowKit Go.Proofs

/-- Block b is a buffer over row g, which has cap cells and begins with bs. -/
structure BufIs (B b g cap : Nat) (bs : List Value) (w : World) : Prop where
  hB : B ≤ b
  hg : B ≤ g
  ne : g ≠ b
  cell : ∃ lr, w.heap[b]? = some (.cells #[.slice (some ⟨g, 0, none⟩) bs.length cap, .int .i64 0, .int .i8 lr] 244 (0, 0))
  row : ∃ cur tg, w.heap[g]? = some (.cells cur tg (0, 0)) ∧ cur.size = cap ∧ cur.toList.take bs.length = bs
  le : bs.length ≤ cap
  max : cap ≤ maxLen
  one : ∀ v ∈ bs, v.oneCell' = true

set_option maxRecDepth 100000 in
theorem catch_idle (w : World) : CallsD Tryz.prog 289 #[] .returning w fun e u' w' => e = .returned (.tuple #[]) ∧ u' = .returning ∧ w' = w := by
  have hnn : ∀ w, (binOp .neq 20 .nilIface .nilIface).run Tryz.prog w = .ok (.bool false) w := fun w => Lib.run_neq_nil_nil w Tryz.underlying20
  refine callsD_of_wpS Tryz.func289 rfl fun c₀ cs hu => ?_
  apply wpS_seq
  apply wpS_region
  simp [wpOpsS, go_sem, recoverD, hu, hnn, Tryz.ntmps289, Exit.thenS]
  refine wpS_cond (t := false) (by simp [Act.eval, Array.replicate]) ?_
  simp only [Bool.false_eq_true, if_false]
  refine wpS_of_wp (wp_skip ?_)
  cases c₀
  simp_all [bodyPostS, results, Tryz.results289]

set_option maxHeartbeats 6400000 in
set_option maxRecDepth 100000 in
theorem growSlice_calls (g l c n : Nat) (cur : Array Value) (tg : TypeId) (w : World) (hg : w.heap[g]? = some (.cells cur tg (0, 0))) (hcs : cur.size = c) (hlc : l ≤ c) (hn : 1 ≤ n)
    (hlim : l + n ≤ 140737488355328) (hc2 : c ≤ 140737488355328) (h1 : ∀ v ∈ cur.toList.take l, v.oneCell' = true) :
    Calls Tryz.prog 259 #[.slice (some ⟨g, 0, none⟩) l c, .int .i64 n] w fun e w' => ∃ cap2 cells, e = .returned (.slice (some ⟨w.heap.size, 0, none⟩) l cap2) ∧ w'.heap[w.heap.size]? = some (.cells cells 5 (0, 0)) ∧
      cells.size = cap2 ∧ cells.toList.take l = cur.toList.take l ∧ l + n ≤ cap2 ∧ cap2 ≤ maxLen ∧ Below w.heap.size w w' := by
  obtain ⟨i0, hi, hz0, hz1, hz2⟩ := info_parts infoB
  have hsz1 : (Tryz.prog.info? 5).map (·.size) = some 1 := by rw [hi]; simp [hz1]
  by_cases hC : l + n < 2 * c
  · skip
    have happ := Lib.run_append_nil_zeros (P := Tryz.prog) w 62 3 62 5 i0 (.int .u8 0) .i64 .i64 Tryz.underlying62 Tryz.underlying3 hi hz0 (2 * c) (by omega) (by omega) (by omega) (by rw [hz2]; omega)
    rw [show ((((2 * c) : Nat)) : Int) = 2 * (c : Int) by omega] at happ
    generalize hcap : grownCap w (2 * c) 0 5 = cap2 at happ
    have hcapge : 2 * c ≤ cap2 := by rw [← hcap]; exact grownCap_ge w _ 0 5
    have hcaple : cap2 ≤ maxLen := by rw [← hcap]; exact grownCap_le_maxLen w _ 0 5 (by unfold maxLen; omega)
    generalize hZ : (Builtin.zeroCells (Value.int .u8 0).cells (2 * c) ++ Builtin.zeroCells (Value.int .u8 0).cells (cap2 - (2 * c))) = Z at happ
    have hZs : Z.size = cap2 := by rw [← hZ]; simp [size_zeroCells, Value.cells]; omega
    clear hcap hZ
    have hgl := Lib.lt_of_heap hg
    have hg1 : (w.alloc (.cells Z 5)).drew.heap[g]? = some (.cells cur tg (0, 0)) := by show (w.alloc (.cells Z 5)).heap[g]? = _; rw [RowKit.Below.heap_alloc w _ g hgl]; exact hg
    have hxl : (cur.toList.take l).length = l := by rw [List.length_take, Array.length_toList]; omega
    have hcopy := run_copy_row (P := Tryz.prog) (w.alloc (.cells Z 5)).drew 62 62 3 5 w.heap.size 0 (2 * c) cap2 ⟨g, 0, none⟩ l c Z 5 (cur.toList.take l) Tryz.underlying62 hsz1 (heap_alloc_new w _) (by rw [hxl]; exact (Nat.min_eq_left (by omega)).symm) (Lib.cells_of_row hg1 l) (by rw [hxl]; omega) h1
    rw [hxl] at hcopy
    generalize hY : (Z.toList.take 0 ++ cur.toList.take l ++ Z.toList.drop (0 + l)).toArray = Y at hcopy
    go_enter_defers Tryz.func259, Tryz.ntmps259
    go_wp2_with (at_builtin; refine Lib.wpList_append_run _ rfl _ _ _ _ rfl _ _ rfl rfl _ _ happ ?_)
    refine leaves_cons (f := 289) (args := #[]) (by simp) (by simp [go_sem]) ?_
    refine (catch_idle _).mono ?_
    rintro e u' w'' ⟨rfl, rfl, rfl⟩
    refine ⟨_, results_tmp rfl _ _ _, ?_⟩
    have hYl : Y.toList = cur.toList.take l ++ Z.toList.drop l := by rw [← hY]; simp
    refine ⟨cap2, Y, rfl, setRow_heap _ _ Z Y 5 (0, 0) (heap_alloc_new w _), ?_, ?_, by omega, hcaple, ?_⟩
    · have : Y.toList.length = cap2 := by rw [hYl, List.length_append, hxl, List.length_drop, Array.length_toList, hZs]; omega
      simpa using this
    · rw [hYl, List.take_append_of_le_length (by rw [hxl]; exact Nat.le_refl _), List.take_of_length_le (by rw [hxl]; exact Nat.le_refl _)]
    · exact ⟨rfl, rfl, rfl, by simp, fun k hk => by rw [setRow_other _ _ _ _ (by omega)]; exact Below.heap_alloc w _ k hk⟩
  · skip
    have happ := Lib.run_append_nil_zeros (P := Tryz.prog) w 62 3 62 5 i0 (.int .u8 0) .i64 .i64 Tryz.underlying62 Tryz.underlying3 hi hz0 (l + n) (by omega) (by omega) (by omega) (by rw [hz2]; omega)
    rw [show ((((l + n) : Nat)) : Int) = (l : Int) + (n : Int) by omega] at happ
    generalize hcap : grownCap w (l + n) 0 5 = cap2 at happ
    have hcapge : l + n ≤ cap2 := by rw [← hcap]; exact grownCap_ge w _ 0 5
    have hcaple : cap2 ≤ maxLen := by rw [← hcap]; exact grownCap_le_maxLen w _ 0 5 (by unfold maxLen; omega)
    generalize hZ : (Builtin.zeroCells (Value.int .u8 0).cells (l + n) ++ Builtin.zeroCells (Value.int .u8 0).cells (cap2 - (l + n))) = Z at happ
    have hZs : Z.size = cap2 := by rw [← hZ]; simp [size_zeroCells, Value.cells]; omega
    clear hcap hZ
    have hgl := Lib.lt_of_heap hg
    have hg1 : (w.alloc (.cells Z 5)).drew.heap[g]? = some (.cells cur tg (0, 0)) := by show (w.alloc (.cells Z 5)).heap[g]? = _; rw [RowKit.Below.heap_alloc w _ g hgl]; exact hg
    have hxl : (cur.toList.take l).length = l := by rw [List.length_take, Array.length_toList]; omega
    have hcopy := run_copy_row (P := Tryz.prog) (w.alloc (.cells Z 5)).drew 62 62 3 5 w.heap.size 0 (l + n) cap2 ⟨g, 0, none⟩ l c Z 5 (cur.toList.take l) Tryz.underlying62 hsz1 (heap_alloc_new w _) (by rw [hxl]; exact (Nat.min_eq_left (by omega)).symm) (Lib.cells_of_row hg1 l) (by rw [hxl]; omega) h1
    rw [hxl] at hcopy
    generalize hY : (Z.toList.take 0 ++ cur.toList.take l ++ Z.toList.drop (0 + l)).toArray = Y at hcopy
    go_enter_defers Tryz.func259, Tryz.ntmps259
    go_wp2_with (at_builtin; refine Lib.wpList_append_run _ rfl _ _ _ _ rfl _ _ rfl rfl _ _ happ ?_)
    refine leaves_cons (f := 289) (args := #[]) (by simp) (by simp [go_sem]) ?_
    refine (catch_idle _).mono ?_
    rintro e u' w'' ⟨rfl, rfl, rfl⟩
    refine ⟨_, results_tmp rfl _ _ _, ?_⟩
    have hYl : Y.toList = cur.toList.take l ++ Z.toList.drop l := by rw [← hY]; simp
    refine ⟨cap2, Y, rfl, setRow_heap _ _ Z Y 5 (0, 0) (heap_alloc_new w _), ?_, ?_, by omega, hcaple, ?_⟩
    · have : Y.toList.length = cap2 := by rw [hYl, List.length_append, hxl, List.length_drop, Array.length_toList, hZs]; omega
      simpa using this
    · rw [hYl, List.take_append_of_le_length (by rw [hxl]; exact Nat.le_refl _), List.take_of_length_le (by rw [hxl]; exact Nat.le_refl _)]
    · exact ⟨rfl, rfl, rfl, by simp, fun k hk => by rw [setRow_other _ _ _ _ (by omega)]; exact Below.heap_alloc w _ k hk⟩

theorem buf_len_calls (b : Nat) (ao : Option Addr) (l cap : Nat) (w : World) (c0 : w.cell? ⟨b, 0, none⟩ = some (.slice ao l cap)) (c1 : w.cell? ⟨b, 1, none⟩ = some (.int .i64 0)) (hl : l ≤ maxLen) :
    Calls Tryz.prog 257 #[.pointer (some ⟨b, 0, none⟩)] w fun e w' => e = .returned (.int .i64 l) ∧ ∃ k, w' = w.drewN k := by
  unfold maxLen at hl
  go_enter Tryz.func257, Tryz.ntmps257
  go_wp2_with fail
  go_region
  all_goals (go_wp2; go_ret; exact ⟨by simp, _, rfl⟩)

set_option maxRecDepth 100000 in
theorem tryGrow_room (b : Nat) (ao : Option Addr) (l cap n : Nat) (w : World) (c0 : w.cell? ⟨b, 0, none⟩ = some (.slice ao l cap)) (f0 : w.frozen? ⟨b, 0, none⟩ = false) (hcap : cap ≤ maxLen) (hn : l + n ≤ cap) (hne : ∃ a, ao = some a) :
    Calls Tryz.prog 204 #[.pointer (some ⟨b, 0, none⟩), .int .i64 n] w fun e w' => e = .returned (.tuple #[.int .i64 l, .bool true]) ∧ w' = w.setCell ⟨b, 0, none⟩ (.slice ao (l + n) cap) := by
  obtain ⟨a, rfl⟩ := hne
  unfold maxLen at hcap
  go_enter Tryz.func204, Tryz.ntmps204
  go_wp2
  go_ret2
  exact ⟨rfl, rfl⟩
set_option maxRecDepth 100000 in
theorem tryGrow_none (b : Nat) (ao : Option Addr) (l cap n : Nat) (w : World) (c0 : w.cell? ⟨b, 0, none⟩ = some (.slice ao l cap)) (hlc : l ≤ cap) (hcap : cap ≤ maxLen) (hn : cap - l < n) :
    Calls Tryz.prog 204 #[.pointer (some ⟨b, 0, none⟩), .int .i64 n] w fun e w' => e = .returned (.tuple #[.int .i64 0, .bool false]) ∧ w' = w := by
  unfold maxLen at hcap
  go_enter Tryz.func204, Tryz.ntmps204
  go_wp2
  go_ret2
  exact ⟨rfl, rfl⟩
end Go.Proofs.YtobbfenkdnaanaaGreatDoor

namespace Go.Proofs.YtobbfenkdnaanaaGreatDoor
open Go.RowKit Go.Proofs

/-- Room for n letters behind the first l is laid in the buffer's row. -/
structure RoomAt (B b g cap l n : Nat) (bs : List Value) (w W : World) : Prop where
  hB : B ≤ b
  hg : B ≤ g
  ne : g ≠ b
  cell : ∃ lr, W.heap[b]? = some (.cells #[.slice (some ⟨g, 0, none⟩) (l + n) cap, .int .i64 0, .int .i8 lr] 244 (0, 0))
  row : ∃ cur tg, W.heap[g]? = some (.cells cur tg (0, 0)) ∧ cur.size = cap ∧ cur.toList.take l = bs
  le : l + n ≤ cap
  max : cap ≤ maxLen
  len : bs.length = l
  one : ∀ v ∈ bs, v.oneCell' = true
  below : Below B w W
  kept : ∀ k, k < w.heap.size → k ≠ b → W.heap[k]? = w.heap[k]?

theorem BufIs.last {B b g cap : Nat} {bs : List Value} {w : World} (h : BufIs B b g cap bs w) : BufIs B b g cap bs (w.setCell ⟨b, 2, none⟩ (.int .i8 0)) where
  hB := h.hB
  hg := h.hg
  ne := h.ne
  cell := h.cell.elim fun lr hc => ⟨0, Lib.heap_setCell_same (i := 2) hc _⟩
  row := by
    obtain ⟨cur, tg, h1, h2⟩ := h.row
    exact ⟨cur, tg, by rw [Below.heap_setCell _ _ _ _ h.ne]; exact h1, h2⟩
  le := h.le
  max := h.max
  one := h.one
theorem BufIs.room {B b g cap n : Nat} {bs : List Value} {w : World} (h : BufIs B b g cap bs w) (hn : bs.length + n ≤ cap) :
    RoomAt B b g cap bs.length n bs w ((w.setCell ⟨b, 2, none⟩ (.int .i8 0)).setCell ⟨b, 0, none⟩ (.slice (some ⟨g, 0, none⟩) (bs.length + n) cap)) where
  hB := h.hB
  hg := h.hg
  ne := h.ne
  cell := h.last.cell.elim fun lr hc => ⟨lr, Lib.heap_setCell_same (i := 0) hc _⟩
  row := by
    obtain ⟨cur, tg, h1, h2⟩ := h.last.row
    exact ⟨cur, tg, by rw [Below.heap_setCell _ _ _ _ h.ne]; exact h1, h2⟩
  le := hn
  max := h.max
  len := rfl
  one := h.one
  below := ((Below.refl B w).setCell (p := ⟨b, 2, none⟩) h.hB _).setCell (p := ⟨b, 0, none⟩) h.hB _
  kept := fun k _ hk => by rw [Below.heap_setCell _ _ _ _ hk, Below.heap_setCell _ _ _ _ hk]
/-- One letter is written. -/
theorem RoomAt.poke {B b g cap l : Nat} {bs : List Value} {w W : World} (h : RoomAt B b g cap l 1 bs w W) (v : Value) (hv : v.oneCell' = true) :
    BufIs B b g cap (bs ++ [v]) (W.setCell ⟨g, l, none⟩ v) ∧ Below B w (W.setCell ⟨g, l, none⟩ v) := by
  obtain ⟨lr, hc⟩ := h.cell
  obtain ⟨cur, tg, h1, h2, h3⟩ := h.row
  have hle := h.le
  have hll : l < cur.toList.length := by have : cur.toList.length = cur.size := Array.length_toList; omega
  refine ⟨⟨h.hB, h.hg, h.ne, ⟨lr, ?_⟩, ⟨_, tg, Lib.heap_setCell_same (i := l) h1 v, by simpa using h2, ?_⟩, ?_, h.max, ?_⟩, h.below.setCell (p := ⟨g, l, none⟩) h.hg _⟩
  · rw [Below.heap_setCell _ _ _ _ (Ne.symm h.ne), hc, List.length_append, h.len]
    rfl
  · rw [List.length_append, h.len, Array.toList_setIfInBounds]
    show List.take (l + 1) _ = _
    rw [List.take_add_one, List.take_set_of_le (Nat.le_refl _), List.getElem?_set_self hll, h3]
    rfl
  · rw [List.length_append, h.len]; exact hle
  · intro u hu
    rcases List.mem_append.1 hu with hu | hu
    · exact h.one u hu
    · rw [List.mem_singleton] at hu; subst hu; exact hv
/-- n letters are written. -/
theorem RoomAt.write {B b g cap l n : Nat} {bs : List Value} {w W : World} (h : RoomAt B b g cap l n bs w W) (cs : List Value) (hcs : cs.length = n) (h1c : ∀ v ∈ cs, v.oneCell' = true) (cur : Array Value) (tg : TypeId)
    (h1 : W.heap[g]? = some (.cells cur tg (0, 0))) (h2 : cur.size = cap) (h3 : cur.toList.take l = bs) :
    BufIs B b g cap (bs ++ cs) (W.setRow g (cur.toList.take l ++ cs ++ cur.toList.drop (l + n)).toArray) ∧ Below B w (W.setRow g (cur.toList.take l ++ cs ++ cur.toList.drop (l + n)).toArray) := by
  obtain ⟨lr, hc⟩ := h.cell
  have hle := h.le
  have hlen := h.len
  have hcl : cur.toList.length = cur.size := Array.length_toList
  have hg := h.hg
  refine ⟨⟨h.hB, h.hg, h.ne, ⟨lr, ?_⟩, ⟨_, tg, setRow_heap _ _ cur _ tg (0, 0) h1, ?_, ?_⟩, ?_, h.max, ?_⟩, ?_⟩
  · rw [setRow_other _ _ _ _ (Ne.symm h.ne), hc, List.length_append, h.len, hcs]
  · simp only [List.size_toArray, List.length_append, List.length_take, List.length_drop, hcs]; omega
  · rw [List.length_append, h.len, hcs, h3]
    have : (bs ++ cs).length = l + n := by rw [List.length_append, h.len, hcs]
    rw [List.take_append_of_le_length (by omega), List.take_of_length_le (by omega)]
  · rw [List.length_append, h.len, hcs]; exact hle
  · intro u hu
    rcases List.mem_append.1 hu with hu | hu
    · exact h.one u hu
    · exact h1c u hu
  · refine h.below.trans ⟨rfl, rfl, rfl, by simp, fun k hk => ?_⟩
    rw [setRow_other _ _ _ _ (by omega)]

set_option maxHeartbeats 12800000 in
set_option maxRecDepth 100000 in
theorem grow_calls (B b g cap n : Nat) (bs : List Value) (w : World) (h : BufIs B b g cap bs w) (hBw : B ≤ w.heap.size) (hl : 1 ≤ bs.length) (hn : 1 ≤ n) (hroom : cap - bs.length < n) (hlim : bs.length + n ≤ 140737488355328) :
    Calls Tryz.prog 205 #[.pointer (some ⟨b, 0, none⟩), .int .i64 n] w fun e w' => e = .returned (.int .i64 bs.length) ∧ ∃ g2 cap2, cap ≤ cap2 ∧ RoomAt B b g2 cap2 bs.length n bs w w' := by
  obtain ⟨lr, hbk⟩ := h.cell
  obtain ⟨cur, tg, hg, hcs, htake⟩ := h.row
  have hlc := h.le
  have hcm := h.max
  have hbl := Lib.lt_of_heap hbk
  obtain ⟨l, hle⟩ : ∃ l, bs.length = l := ⟨_, rfl⟩
  have HH := Aside0.mk (And.intro h hBw)
  rw [hle] at hbk htake hlc hl hroom hlim ⊢
  have HLE := Aside0.mk hle
  have HTK := Aside0.mk htake
  clear h hle hBw
  have mixed : Tryz.prog.follows Departure.mixedOrders = true := by kernel_rfl
  have hnil : ∀ W, (binOp .eql 62 (.slice (some ⟨g, 0, none⟩) l cap) (.slice none 0 0)).run Tryz.prog W = .ok (.bool false) W := fun W => Lib.run_eql_slice_some_nil W _ _ _ Tryz.underlying62
  have c0w : w.cell? ⟨b, 0, none⟩ = some (.slice (some ⟨g, 0, none⟩) l cap) := by rw [Lib.cell_of_heap hbk]; rfl
  have c1w : w.cell? ⟨b, 1, none⟩ = some (.int .i64 0) := by rw [Lib.cell_of_heap hbk]; rfl
  have hL := buf_len_calls b (some ⟨g, 0, none⟩) l cap w c0w c1w (by omega)
  clear c0w c1w
  go_enter Tryz.func205, Tryz.ntmps205
  go_wp2_with (go_at_call 257; refine hL.mono ?_)
  rintro e W0 ⟨rfl, k, hW0⟩
  have hbk0 : W0.heap[b]? = some (.cells #[.slice (some ⟨g, 0, none⟩) l cap, .int .i64 0, .int .i8 lr] 244 (0, 0)) := by rw [hW0]; exact hbk
  have hg0 : W0.heap[g]? = some (.cells cur tg (0, 0)) := by rw [hW0]; exact hg
  have c0 : W0.cell? ⟨b, 0, none⟩ = some (.slice (some ⟨g, 0, none⟩) l cap) := by rw [Lib.cell_of_heap hbk0]; rfl
  have c1 : W0.cell? ⟨b, 1, none⟩ = some (.int .i64 0) := by rw [Lib.cell_of_heap hbk0]; rfl
  have f0 : W0.frozen? ⟨b, 0, none⟩ = false := Lib.frozen_of_heap hbk0 0
  have f1 : W0.frozen? ⟨b, 1, none⟩ = false := Lib.frozen_of_heap hbk0 1
  have HW0 := Aside0.mk hW0
  clear hW0 hL
  have hcm' := hcm
  unfold maxLen at hcm'
  have hT := tryGrow_none b (some ⟨g, 0, none⟩) l cap n W0 c0 hlc hcm hroom
  go_wp2_with (go_at_call 204; refine hT.mono ?_; rintro e w' ⟨rfl, rfl⟩)
  have hc2 : cap ≤ 140737488355328 := by omega
  have h1' : ∀ v ∈ cur.toList.take l, v.oneCell' = true := by rw [HTK.out]; exact HH.out.1.one
  have hbW := Lib.lt_of_heap hbk0
  have hwn : IntKind.i64.wrap (n : Int) = n := by rw [IntKind.wrap_i64]; omega
  go_region_with_o (
      go_at_call 259
      refine (growSlice_calls g l cap n cur tg _ ?_ hcs hlc hn hlim hc2 h1').mono ?_
      exact hg0
      rintro e w2 ⟨cap2, cells, rfl, hN, hcsz, htk, hcap2, hcm2, hbel⟩
      have hbk2 : w2.heap[b]? = some (.cells #[.slice (some ⟨g, 0, none⟩) l cap, .int .i64 0, .int .i8 lr] 244 (0, 0)) := (hbel.block b hbW).trans hbk0
      have d0 : w2.cell? ⟨b, 0, none⟩ = some (.slice (some ⟨g, 0, none⟩) l cap) := by rw [Lib.cell_of_heap hbk2]; rfl
      have d1 : w2.cell? ⟨b, 1, none⟩ = some (.int .i64 0) := by rw [Lib.cell_of_heap hbk2]; rfl
      have e0 : w2.frozen? ⟨b, 0, none⟩ = false := Lib.frozen_of_heap hbk2 0
      have e1 : w2.frozen? ⟨b, 1, none⟩ = false := Lib.frozen_of_heap hbk2 1)
  all_goals (
    go_wp2
    go_ret
    have hsz0 : w'.heap.size = w.heap.size := by rw [HW0.out]; rfl
    have hNb : w'.heap.size ≠ b := by omega
    have hbk3 := Lib.heap_setCell_same (i := 0) (Lib.heap_setCell_same (i := 1) (Lib.heap_setCell_same (i := 0) hbk2 (.slice (some ⟨w'.heap.size, 0, none⟩) l cap2)) (.int .i64 0)) (.slice (some ⟨w'.heap.size, 0, none⟩) (l + n) cap2)
    refine ⟨rfl, w'.heap.size, cap2, by omega, HH.out.1.hB, ?_, hNb, ⟨lr, hbk3⟩, ⟨cells, 5, ?_, hcsz, htk.trans HTK.out⟩, hcap2, hcm2, HLE.out, HH.out.1.one, ?_, ?_⟩
    · have := HH.out.2; omega
    · rw [Below.heap_setCell _ _ _ _ hNb, Below.heap_setCell _ _ _ _ hNb, Below.heap_setCell _ _ _ _ hNb]
      exact hN
    · have hb0 : Below B w w'.drew := by rw [HW0.out]; exact ⟨rfl, rfl, rfl, Nat.le_refl _, fun _ _ => rfl⟩
      exact (((hb0.trans (hbel.mono (by have := HH.out.2; show B ≤ w'.heap.size; omega))).setCell (p := ⟨b, 0, none⟩) HH.out.1.hB _).setCell (p := ⟨b, 1, none⟩) HH.out.1.hB _).setCell (p := ⟨b, 0, none⟩) HH.out.1.hB _
    · intro k hk hkb
      rw [Below.heap_setCell _ _ _ _ hkb, Below.heap_setCell _ _ _ _ hkb, Below.heap_setCell _ _ _ _ hkb, hbel.block k (by show k < w'.heap.size; omega), HW0.out]
      rfl)
end Go.Proofs.YtobbfenkdnaanaaGreatDoor

namespace Go.Proofs.YtobbfenkdnaanaaGreatDoor
open Go.RowKit Go.Proofs

set_option maxHeartbeats 6400000 in
set_option maxRecDepth 100000 in
theorem writeByte_calls (B b g cap : Nat) (bs : List Value) (c : Int) (w : World) (h : BufIs B b g cap bs w) (hBw : B ≤ w.heap.size) (hl : bs.length + 1 ≤ cap ∨ 1 ≤ bs.length) (hlim : bs.length + 1 ≤ 140737488355328) :
    Calls Tryz.prog 147 #[.pointer (some ⟨b, 0, none⟩), .int .u8 c] w fun e w' => e = .returned .nilIface ∧ ∃ g' cap', cap ≤ cap' ∧ BufIs B b g' cap' (bs ++ [.int .u8 c]) w' ∧ Below B w w' := by
  obtain ⟨lr, hbk⟩ := h.cell
  obtain ⟨l, hle⟩ : ∃ l, bs.length = l := ⟨_, rfl⟩
  have hmax := h.max
  have hlc := h.le
  have c2 : w.cell? ⟨b, 2, none⟩ = some (.int .i8 lr) := by rw [Lib.cell_of_heap hbk]; rfl
  have f2 : w.frozen? ⟨b, 2, none⟩ = false := Lib.frozen_of_heap hbk 2
  have hI := h.last
  obtain ⟨lr0, hbk0⟩ := hI.cell
  have c0 : (w.setCell ⟨b, 2, none⟩ (.int .i8 0)).cell? ⟨b, 0, none⟩ = some (.slice (some ⟨g, 0, none⟩) bs.length cap) := by rw [Lib.cell_of_heap hbk0]; rfl
  have f0 : (w.setCell ⟨b, 2, none⟩ (.int .i8 0)).frozen? ⟨b, 0, none⟩ = false := Lib.frozen_of_heap hbk0 0
  have hB0 : Below B w (w.setCell ⟨b, 2, none⟩ (.int .i8 0)) := (Below.refl B w).setCell (p := ⟨b, 2, none⟩) h.hB _
  have hk0 : ∀ k, k ≠ b → (w.setCell ⟨b, 2, none⟩ (.int .i8 0)).heap[k]? = w.heap[k]? := fun k hk => Below.heap_setCell _ _ _ _ hk
  have hs0 : B ≤ (w.setCell ⟨b, 2, none⟩ (.int .i8 0)).heap.size := by simpa [World.setCell] using hBw
  have hsz0 : (w.setCell ⟨b, 2, none⟩ (.int .i8 0)).heap.size = w.heap.size := by simp [World.setCell]
  by_cases hroom : bs.length + 1 ≤ cap
  · have hT := tryGrow_room b (some ⟨g, 0, none⟩) bs.length cap (1) _ c0 f0 hmax hroom ⟨_, rfl⟩
    have hR := h.room (n := 1) hroom
    obtain ⟨W1, hW1⟩ : ∃ W1, W1 = ((w.setCell ⟨b, 2, none⟩ (.int .i8 0)).setCell ⟨b, 0, none⟩ (.slice (some ⟨g, 0, none⟩) (bs.length + 1) cap)) := ⟨_, rfl⟩
    rw [← hW1] at hT hR
    obtain ⟨g2, hg2⟩ : ∃ g2, g = g2 := ⟨_, rfl⟩
    obtain ⟨cap2, hcap2⟩ : ∃ cap2, cap = cap2 := ⟨_, rfl⟩
    have HCAP := Aside0.mk (Nat.le_of_eq hcap2)
    have HB1 := Aside0.mk (show ∀ W2, Below B w W2 → Below B w W2 from fun _ h => h)
    have hsrc1 : ∀ k, k < w.heap.size → k ≠ b → W1.heap[k]? = w.heap[k]? := hR.kept
    rw [hle] at hT hR hroom
    rw [hg2, hcap2] at hR
    have HLE := Aside0.mk hle
    clear hW1 hbk hbk0 hI c0 f0 hB0 hk0 hs0 hsz0 hlc hle h
    go_enter Tryz.func147, Tryz.ntmps147
    go_wp2_with fail
    refine hT.mono ?_
    rintro e w' ⟨rfl, rfl⟩
    clear hT c2 f2
    obtain ⟨lr2, hbk2⟩ := hR.cell
    obtain ⟨cur, tg, hg, hcs, htk⟩ := hR.row
    have hle2 := hR.le
    have hmx := hR.max
    unfold maxLen at hmx
    have d0 : w'.cell? ⟨b, 0, none⟩ = some (.slice (some ⟨g2, 0, none⟩) (l + 1) cap2) := by rw [Lib.cell_of_heap hbk2]; rfl
    have hlt : l < cur.size := by omega
    have dg : w'.cell? ⟨g2, l, none⟩ = some cur[l] := by rw [Lib.cell_of_heap hg, Array.getElem?_eq_getElem hlt]
    have fg : w'.frozen? ⟨g2, l, none⟩ = false := Lib.frozen_of_heap hg _
    have HR := Aside0.mk hR
    have HTK := Aside0.mk (And.intro hg (And.intro hcs htk))
    clear hR hbk2 hg hcs htk hg2 hcap2 hmax
    go_wp2
    go_ret
    exact ⟨rfl, g2, cap2, HCAP.out, (HR.out.poke (.int .u8 c) rfl).1, HB1.out _ (HR.out.poke (.int .u8 c) rfl).2⟩
  · have hT := tryGrow_none b (some ⟨g, 0, none⟩) bs.length cap (1) _ c0 h.le hmax (by omega)
    have hG := grow_calls B b g cap (1) bs _ hI hs0 (by omega) (by omega) (by omega) (by omega)
    have HLE := Aside0.mk hle
    rw [hle] at hG
    have HB1 := Aside0.mk (show ∀ W2, Below B (w.setCell ⟨b, 2, none⟩ (.int .i8 0)) W2 → Below B w W2 from fun _ h => hB0.trans h)
    have HK0 := Aside0.mk (And.intro hk0 hsz0)
    clear hbk hbk0 hI c0 f0 hB0 hk0 hs0 hsz0 hlc hle h hroom
    go_enter Tryz.func147, Tryz.ntmps147
    go_wp2_with (go_at_call 204; refine hT.mono ?_; rintro e w' ⟨rfl, rfl⟩)
    refine hG.mono ?_
    rintro e w' ⟨rfl, g2, cap2, hcc, hR⟩
    have HCAP := Aside0.mk hcc
    have hsrc1 : ∀ k, k < w.heap.size → k ≠ b → w'.heap[k]? = w.heap[k]? := fun k h1 h2 => (hR.kept k (by rw [HK0.out.2]; exact h1) h2).trans (HK0.out.1 k h2)
    clear hT hG c2 f2 hcc
    obtain ⟨lr2, hbk2⟩ := hR.cell
    obtain ⟨cur, tg, hg, hcs, htk⟩ := hR.row
    have hle2 := hR.le
    have hmx := hR.max
    unfold maxLen at hmx
    have d0 : w'.cell? ⟨b, 0, none⟩ = some (.slice (some ⟨g2, 0, none⟩) (l + 1) cap2) := by rw [Lib.cell_of_heap hbk2]; rfl
    have hlt : l < cur.size := by omega
    have dg : w'.cell? ⟨g2, l, none⟩ = some cur[l] := by rw [Lib.cell_of_heap hg, Array.getElem?_eq_getElem hlt]
    have fg : w'.frozen? ⟨g2, l, none⟩ = false := Lib.frozen_of_heap hg _
    have HR := Aside0.mk hR
    have HTK := Aside0.mk (And.intro hg (And.intro hcs htk))
    clear hR hbk2 hg hcs htk hmax
    go_wp2
    go_ret
    exact ⟨rfl, g2, cap2, HCAP.out, (HR.out.poke (.int .u8 c) rfl).1, HB1.out _ (HR.out.poke (.int .u8 c) rfl).2⟩

set_option maxHeartbeats 6400000 in
set_option maxRecDepth 100000 in
theorem writeString_calls (B b g cap : Nat) (bs : List Value) (s : ByteArray) (w : World) (h : BufIs B b g cap bs w) (hBw : B ≤ w.heap.size) (h0 : 1 ≤ s.size) (hl : bs.length + s.size ≤ cap ∨ 1 ≤ bs.length) (hlim : bs.length + s.size ≤ 140737488355328) :
    Calls Tryz.prog 148 #[.pointer (some ⟨b, 0, none⟩), .string s] w fun e w' => e = .returned (.tuple #[.int .i64 s.size, .nilIface]) ∧ ∃ g' cap', cap ≤ cap' ∧ BufIs B b g' cap' (bs ++ Lib.byteCells s.data.toList) w' ∧ Below B w w' := by
  have hinfo : (Tryz.prog.info? 5).map (·.size) = some 1 := by
    obtain ⟨i0, hi, -, hz1, -⟩ := info_parts infoB
    rw [hi]; simp [hz1]
  obtain ⟨lr, hbk⟩ := h.cell
  obtain ⟨l, hle⟩ : ∃ l, bs.length = l := ⟨_, rfl⟩
  have hmax := h.max
  have hlc := h.le
  have c2 : w.cell? ⟨b, 2, none⟩ = some (.int .i8 lr) := by rw [Lib.cell_of_heap hbk]; rfl
  have f2 : w.frozen? ⟨b, 2, none⟩ = false := Lib.frozen_of_heap hbk 2
  have hI := h.last
  obtain ⟨lr0, hbk0⟩ := hI.cell
  have c0 : (w.setCell ⟨b, 2, none⟩ (.int .i8 0)).cell? ⟨b, 0, none⟩ = some (.slice (some ⟨g, 0, none⟩) bs.length cap) := by rw [Lib.cell_of_heap hbk0]; rfl
  have f0 : (w.setCell ⟨b, 2, none⟩ (.int .i8 0)).frozen? ⟨b, 0, none⟩ = false := Lib.frozen_of_heap hbk0 0
  have hB0 : Below B w (w.setCell ⟨b, 2, none⟩ (.int .i8 0)) := (Below.refl B w).setCell (p := ⟨b, 2, none⟩) h.hB _
  have hk0 : ∀ k, k ≠ b → (w.setCell ⟨b, 2, none⟩ (.int .i8 0)).heap[k]? = w.heap[k]? := fun k hk => Below.heap_setCell _ _ _ _ hk
  have hs0 : B ≤ (w.setCell ⟨b, 2, none⟩ (.int .i8 0)).heap.size := by simpa [World.setCell] using hBw
  have hsz0 : (w.setCell ⟨b, 2, none⟩ (.int .i8 0)).heap.size = w.heap.size := by simp [World.setCell]
  by_cases hroom : bs.length + s.size ≤ cap
  · have hT := tryGrow_room b (some ⟨g, 0, none⟩) bs.length cap (s.size) _ c0 f0 hmax hroom ⟨_, rfl⟩
    have hR := h.room (n := s.size) hroom
    obtain ⟨W1, hW1⟩ : ∃ W1, W1 = ((w.setCell ⟨b, 2, none⟩ (.int .i8 0)).setCell ⟨b, 0, none⟩ (.slice (some ⟨g, 0, none⟩) (bs.length + s.size) cap)) := ⟨_, rfl⟩
    rw [← hW1] at hT hR
    obtain ⟨g2, hg2⟩ : ∃ g2, g = g2 := ⟨_, rfl⟩
    obtain ⟨cap2, hcap2⟩ : ∃ cap2, cap = cap2 := ⟨_, rfl⟩
    have HCAP := Aside0.mk (Nat.le_of_eq hcap2)
    have HB1 := Aside0.mk (show ∀ W2, Below B w W2 → Below B w W2 from fun _ h => h)
    have hsrc1 : ∀ k, k < w.heap.size → k ≠ b → W1.heap[k]? = w.heap[k]? := hR.kept
    rw [hle] at hT hR hroom
    rw [hg2, hcap2] at hR
    have HLE := Aside0.mk hle
    clear hW1 hbk hbk0 hI c0 f0 hB0 hk0 hs0 hsz0 hlc hle h
    go_enter Tryz.func148, Tryz.ntmps148
    go_wp2_with fail
    refine hT.mono ?_
    rintro e w' ⟨rfl, rfl⟩
    clear hT c2 f2
    obtain ⟨lr2, hbk2⟩ := hR.cell
    obtain ⟨cur, tg, hg, hcs, htk⟩ := hR.row
    have hle2 := hR.le
    have hmx := hR.max
    unfold maxLen at hmx
    have d0 : w'.cell? ⟨b, 0, none⟩ = some (.slice (some ⟨g2, 0, none⟩) (l + s.size) cap2) := by rw [Lib.cell_of_heap hbk2]; rfl
    have hne : ¬ cap2 = l := by omega
    have hcp := Lib.run_copy_row_string (P := Tryz.prog) w' 62 9 3 5 g2 l s.size (cap2 - l) s cur tg Tryz.underlying62 hinfo hg (Nat.le_refl _) (by omega)
    have HR := Aside0.mk hR
    have HTK := Aside0.mk (And.intro hg (And.intro hcs htk))
    clear hR hbk2 hg hcs htk hg2 hcap2 hmax
    go_wp2
    go_ret2
    have hq := HR.out.write (Lib.byteCells s.data.toList) (by rw [Lib.byteCells_length, ← Lib.size_eq]) (Lib.byteCells_one _) cur tg HTK.out.1 HTK.out.2.1 HTK.out.2.2
    rw [List.append_assoc] at hq
    exact ⟨rfl, g2, cap2, HCAP.out, hq.1, HB1.out _ hq.2⟩
  · have hT := tryGrow_none b (some ⟨g, 0, none⟩) bs.length cap (s.size) _ c0 h.le hmax (by omega)
    have hG := grow_calls B b g cap (s.size) bs _ hI hs0 (by omega) (by omega) (by omega) (by omega)
    have HLE := Aside0.mk hle
    rw [hle] at hG
    have HB1 := Aside0.mk (show ∀ W2, Below B (w.setCell ⟨b, 2, none⟩ (.int .i8 0)) W2 → Below B w W2 from fun _ h => hB0.trans h)
    have HK0 := Aside0.mk (And.intro hk0 hsz0)
    clear hbk hbk0 hI c0 f0 hB0 hk0 hs0 hsz0 hlc hle h hroom
    go_enter Tryz.func148, Tryz.ntmps148
    go_wp2_with (go_at_call 204; refine hT.mono ?_; rintro e w' ⟨rfl, rfl⟩)
    refine hG.mono ?_
    rintro e w' ⟨rfl, g2, cap2, hcc, hR⟩
    have HCAP := Aside0.mk hcc
    have hsrc1 : ∀ k, k < w.heap.size → k ≠ b → w'.heap[k]? = w.heap[k]? := fun k h1 h2 => (hR.kept k (by rw [HK0.out.2]; exact h1) h2).trans (HK0.out.1 k h2)
    clear hT hG c2 f2 hcc
    obtain ⟨lr2, hbk2⟩ := hR.cell
    obtain ⟨cur, tg, hg, hcs, htk⟩ := hR.row
    have hle2 := hR.le
    have hmx := hR.max
    unfold maxLen at hmx
    have d0 : w'.cell? ⟨b, 0, none⟩ = some (.slice (some ⟨g2, 0, none⟩) (l + s.size) cap2) := by rw [Lib.cell_of_heap hbk2]; rfl
    have hne : ¬ cap2 = l := by omega
    have hcp := Lib.run_copy_row_string (P := Tryz.prog) w' 62 9 3 5 g2 l s.size (cap2 - l) s cur tg Tryz.underlying62 hinfo hg (Nat.le_refl _) (by omega)
    have HR := Aside0.mk hR
    have HTK := Aside0.mk (And.intro hg (And.intro hcs htk))
    clear hR hbk2 hg hcs htk hmax
    go_wp2
    go_ret2
    have hq := HR.out.write (Lib.byteCells s.data.toList) (by rw [Lib.byteCells_length, ← Lib.size_eq]) (Lib.byteCells_one _) cur tg HTK.out.1 HTK.out.2.1 HTK.out.2.2
    rw [List.append_assoc] at hq
    exact ⟨rfl, g2, cap2, HCAP.out, hq.1, HB1.out _ hq.2⟩

set_option maxHeartbeats 6400000 in
set_option maxRecDepth 100000 in
theorem write_calls (B b g cap : Nat) (bs cs : List Value) (x o n C : Nat) (w : World) (h : BufIs B b g cap bs w) (hBw : B ≤ w.heap.size) (h0 : 1 ≤ n) (hn : cs.length = n) (hxb : x ≠ b) (hx : x < w.heap.size)
    (hsrc : ∀ j v, cs[j]? = some v → w.cell? ((⟨x, o, none⟩ : Addr).add j) = some v) (h1c : ∀ v ∈ cs, v.oneCell' = true) (hl : bs.length + n ≤ cap ∨ 1 ≤ bs.length) (hlim : bs.length + n ≤ 140737488355328) :
    Calls Tryz.prog 149 #[.pointer (some ⟨b, 0, none⟩), .slice (some ⟨x, o, none⟩) n C] w fun e w' => e = .returned (.tuple #[.int .i64 n, .nilIface]) ∧ ∃ g' cap', cap ≤ cap' ∧ BufIs B b g' cap' (bs ++ cs) w' ∧ Below B w w' := by
  have hinfo : (Tryz.prog.info? 5).map (·.size) = some 1 := by
    obtain ⟨i0, hi, -, hz1, -⟩ := info_parts infoB
    rw [hi]; simp [hz1]
  obtain ⟨lr, hbk⟩ := h.cell
  obtain ⟨l, hle⟩ : ∃ l, bs.length = l := ⟨_, rfl⟩
  have hmax := h.max
  have hlc := h.le
  have c2 : w.cell? ⟨b, 2, none⟩ = some (.int .i8 lr) := by rw [Lib.cell_of_heap hbk]; rfl
  have f2 : w.frozen? ⟨b, 2, none⟩ = false := Lib.frozen_of_heap hbk 2
  have hI := h.last
  obtain ⟨lr0, hbk0⟩ := hI.cell
  have c0 : (w.setCell ⟨b, 2, none⟩ (.int .i8 0)).cell? ⟨b, 0, none⟩ = some (.slice (some ⟨g, 0, none⟩) bs.length cap) := by rw [Lib.cell_of_heap hbk0]; rfl
  have f0 : (w.setCell ⟨b, 2, none⟩ (.int .i8 0)).frozen? ⟨b, 0, none⟩ = false := Lib.frozen_of_heap hbk0 0
  have hB0 : Below B w (w.setCell ⟨b, 2, none⟩ (.int .i8 0)) := (Below.refl B w).setCell (p := ⟨b, 2, none⟩) h.hB _
  have hk0 : ∀ k, k ≠ b → (w.setCell ⟨b, 2, none⟩ (.int .i8 0)).heap[k]? = w.heap[k]? := fun k hk => Below.heap_setCell _ _ _ _ hk
  have hs0 : B ≤ (w.setCell ⟨b, 2, none⟩ (.int .i8 0)).heap.size := by simpa [World.setCell] using hBw
  have hsz0 : (w.setCell ⟨b, 2, none⟩ (.int .i8 0)).heap.size = w.heap.size := by simp [World.setCell]
  by_cases hroom : bs.length + n ≤ cap
  · have hT := tryGrow_room b (some ⟨g, 0, none⟩) bs.length cap (n) _ c0 f0 hmax hroom ⟨_, rfl⟩
    have hR := h.room (n := n) hroom
    obtain ⟨W1, hW1⟩ : ∃ W1, W1 = ((w.setCell ⟨b, 2, none⟩ (.int .i8 0)).setCell ⟨b, 0, none⟩ (.slice (some ⟨g, 0, none⟩) (bs.length + n) cap)) := ⟨_, rfl⟩
    rw [← hW1] at hT hR
    obtain ⟨g2, hg2⟩ : ∃ g2, g = g2 := ⟨_, rfl⟩
    obtain ⟨cap2, hcap2⟩ : ∃ cap2, cap = cap2 := ⟨_, rfl⟩
    have HCAP := Aside0.mk (Nat.le_of_eq hcap2)
    have HB1 := Aside0.mk (show ∀ W2, Below B w W2 → Below B w W2 from fun _ h => h)
    have hsrc1 : ∀ k, k < w.heap.size → k ≠ b → W1.heap[k]? = w.heap[k]? := hR.kept
    rw [hle] at hT hR hroom
    rw [hg2, hcap2] at hR
    have HLE := Aside0.mk hle
    clear hW1 hbk hbk0 hI c0 f0 hB0 hk0 hs0 hsz0 hlc hle h
    go_enter Tryz.func149, Tryz.ntmps149
    go_wp2_with fail
    refine hT.mono ?_
    rintro e w' ⟨rfl, rfl⟩
    clear hT c2 f2
    obtain ⟨lr2, hbk2⟩ := hR.cell
    obtain ⟨cur, tg, hg, hcs, htk⟩ := hR.row
    have hle2 := hR.le
    have hmx := hR.max
    unfold maxLen at hmx
    have d0 : w'.cell? ⟨b, 0, none⟩ = some (.slice (some ⟨g2, 0, none⟩) (l + n) cap2) := by rw [Lib.cell_of_heap hbk2]; rfl
    have hne : ¬ cap2 = l := by omega
    have hsrc2 : ∀ j v, cs[j]? = some v → w'.cell? ((⟨x, o, none⟩ : Addr).add j) = some v := fun j v hj => by
      have h1 := hsrc j v hj
      rw [Addr.add_lit] at h1 ⊢
      rw [World.cell?_of_block (a := ⟨x, o + j, none⟩) (hsrc1 x hx hxb)]
      exact h1
    have hcp := run_copy_row (P := Tryz.prog) w' 62 62 3 5 g2 l n (cap2 - l) ⟨x, o, none⟩ n C cur tg cs Tryz.underlying62 hinfo hg (by rw [hn]; exact (Nat.min_self n).symm) hsrc2 (by rw [hn]; omega) h1c
    rw [hn] at hcp
    clear hsrc2
    have HR := Aside0.mk hR
    have HTK := Aside0.mk (And.intro hg (And.intro hcs htk))
    clear hR hbk2 hg hcs htk hg2 hcap2 hmax
    go_wp2
    go_ret2
    have hq := HR.out.write cs hn h1c cur tg HTK.out.1 HTK.out.2.1 HTK.out.2.2
    rw [List.append_assoc] at hq
    exact ⟨rfl, g2, cap2, HCAP.out, hq.1, HB1.out _ hq.2⟩
  · have hT := tryGrow_none b (some ⟨g, 0, none⟩) bs.length cap (n) _ c0 h.le hmax (by omega)
    have hG := grow_calls B b g cap (n) bs _ hI hs0 (by omega) (by omega) (by omega) (by omega)
    have HLE := Aside0.mk hle
    rw [hle] at hG
    have HB1 := Aside0.mk (show ∀ W2, Below B (w.setCell ⟨b, 2, none⟩ (.int .i8 0)) W2 → Below B w W2 from fun _ h => hB0.trans h)
    have HK0 := Aside0.mk (And.intro hk0 hsz0)
    clear hbk hbk0 hI c0 f0 hB0 hk0 hs0 hsz0 hlc hle h hroom
    go_enter Tryz.func149, Tryz.ntmps149
    go_wp2_with (go_at_call 204; refine hT.mono ?_; rintro e w' ⟨rfl, rfl⟩)
    refine hG.mono ?_
    rintro e w' ⟨rfl, g2, cap2, hcc, hR⟩
    have HCAP := Aside0.mk hcc
    have hsrc1 : ∀ k, k < w.heap.size → k ≠ b → w'.heap[k]? = w.heap[k]? := fun k h1 h2 => (hR.kept k (by rw [HK0.out.2]; exact h1) h2).trans (HK0.out.1 k h2)
    clear hT hG c2 f2 hcc
    obtain ⟨lr2, hbk2⟩ := hR.cell
    obtain ⟨cur, tg, hg, hcs, htk⟩ := hR.row
    have hle2 := hR.le
    have hmx := hR.max
    unfold maxLen at hmx
    have d0 : w'.cell? ⟨b, 0, none⟩ = some (.slice (some ⟨g2, 0, none⟩) (l + n) cap2) := by rw [Lib.cell_of_heap hbk2]; rfl
    have hne : ¬ cap2 = l := by omega
    have hsrc2 : ∀ j v, cs[j]? = some v → w'.cell? ((⟨x, o, none⟩ : Addr).add j) = some v := fun j v hj => by
      have h1 := hsrc j v hj
      rw [Addr.add_lit] at h1 ⊢
      rw [World.cell?_of_block (a := ⟨x, o + j, none⟩) (hsrc1 x hx hxb)]
      exact h1
    have hcp := run_copy_row (P := Tryz.prog) w' 62 62 3 5 g2 l n (cap2 - l) ⟨x, o, none⟩ n C cur tg cs Tryz.underlying62 hinfo hg (by rw [hn]; exact (Nat.min_self n).symm) hsrc2 (by rw [hn]; omega) h1c
    rw [hn] at hcp
    clear hsrc2
    have HR := Aside0.mk hR
    have HTK := Aside0.mk (And.intro hg (And.intro hcs htk))
    clear hR hbk2 hg hcs htk hmax
    go_wp2
    go_ret2
    have hq := HR.out.write cs hn h1c cur tg HTK.out.1 HTK.out.2.1 HTK.out.2.2
    rw [List.append_assoc] at hq
    exact ⟨rfl, g2, cap2, HCAP.out, hq.1, HB1.out _ hq.2⟩

set_option maxRecDepth 100000 in
theorem avail_calls (B b g cap : Nat) (bs : List Value) (w : World) (h : BufIs B b g cap bs w) :
    Calls Tryz.prog 151 #[.pointer (some ⟨b, 0, none⟩)] w fun e w' => ∃ ao, e = .returned (.slice ao 0 (cap - bs.length)) ∧ (0 < cap - bs.length → ao = some ⟨g, bs.length, none⟩) ∧ ∃ k, w' = w.drewN k := by
  obtain ⟨lr, hbk⟩ := h.cell
  have hlc := h.le
  have hmx := h.max
  unfold maxLen at hmx
  obtain ⟨l, hle⟩ : ∃ l, bs.length = l := ⟨_, rfl⟩
  rw [hle] at hbk hlc ⊢
  have c0 : w.cell? ⟨b, 0, none⟩ = some (.slice (some ⟨g, 0, none⟩) l cap) := by rw [Lib.cell_of_heap hbk]; rfl
  clear h hbk hle
  by_cases he : cap = l
  · subst he
    go_enter Tryz.func151, Tryz.ntmps151
    go_wp2_with fail
    go_region
    all_goals (go_wp2; go_ret; exact ⟨some ⟨g, 0, none⟩, by rw [Nat.sub_self]; rfl, by omega, _, rfl⟩)
  · go_enter Tryz.func151, Tryz.ntmps151
    go_wp2_with fail
    go_region
    all_goals (go_wp2; go_ret; exact ⟨_, rfl, fun _ => rfl, _, rfl⟩)

set_option maxRecDepth 100000 in
theorem bufString_calls (B b g cap : Nat) (nums : List Int) (w : World) (h : BufIs B b g cap (Lib.intCells nums) w) :
    Calls Tryz.prog 152 #[.pointer (some ⟨b, 0, none⟩)] w fun e w' => e = .returned (.string (strOfNums nums)) ∧ ∃ k, w' = w.drewN k := by
  obtain ⟨lr, hbk⟩ := h.cell
  obtain ⟨cur, tg, hg, hcs, htk⟩ := h.row
  have hlc := h.le
  have hmx := h.max
  unfold maxLen at hmx
  have hle : (Lib.intCells nums).length = nums.length := by simp [Lib.intCells]
  rw [hle] at hbk hlc htk
  have c0 : w.cell? ⟨b, 0, none⟩ = some (.slice (some ⟨g, 0, none⟩) nums.length cap) := by rw [Lib.cell_of_heap hbk]; rfl
  have c1 : w.cell? ⟨b, 1, none⟩ = some (.int .i64 0) := by rw [Lib.cell_of_heap hbk]; rfl
  have hcv := fun q => run_convert_bytes_arg (P := Tryz.prog) (w.drewN q) 62 5 Tryz.underlying62 Tryz.underlying5 g 0 nums.length cap nums rfl (fun i hi => by
    have h2 := Lib.cells_of_row hg nums.length i (.int .u8 (nums.getD i 0)) (by rw [htk]; simp [Lib.intCells, List.getD, List.getElem?_eq_getElem hi])
    rw [Addr.add_lit] at h2
    simpa using h2) 9 Tryz.underlying9
  obtain ⟨s, hs⟩ : ∃ s, strOfNums nums = s := ⟨_, rfl⟩
  rw [hs] at hcv ⊢
  obtain ⟨l, hl⟩ : ∃ l, nums.length = l := ⟨_, rfl⟩
  rw [hl] at hcv c0 hlc
  have hcv1 : (convert 62 9 (.slice (some ⟨g, 0, none⟩) l cap)).run Tryz.prog w.drew = .ok (.string s) w.drew := hcv 1
  clear h hbk hg hcs htk hle hs hl
  go_enter Tryz.func152, Tryz.ntmps152
  go_wp2_with fail
  go_region
  all_goals (go_wp2; go_ret; exact ⟨rfl, _, rfl⟩)
end Go.Proofs.YtobbfenkdnaanaaGreatDoor
