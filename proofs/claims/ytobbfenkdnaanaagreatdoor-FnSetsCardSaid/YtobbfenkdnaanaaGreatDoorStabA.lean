/- sort.SliceStable over at most 20 labels, by contract: the row holds the insertion sort's. -/
import Derived.Test.YtobbfenkdnaanaaGreatDoorStb
import Derived.Test.YtobbfenkdnaanaaGreatDoorMrgP
import Derived.Shelf.SlSortFuncK.SWK
import Derived.Shelf.GgSortFunc.SmallK
set_option linter.unusedVariables false
set_option linter.unusedSimpArgs false
namespace Go.Proofs.YtobbfenkdnaanaaGreatDoor
open Go.RowKit Go.Maps Go.WideMaps Go.Sort Go.Lib

/-- A label's two cells. -/
def encL (p : ByteArray × ByteArray) : List Value := [.string p.1, .string p.2]
theorem encL_len (p : ByteArray × ByteArray) : (encL p).length = 2 := rfl
theorem encL_one (p : ByteArray × ByteArray) : ∀ v ∈ encL p, v.oneCell' = true := fun v h => by
  simp only [encL, List.mem_cons, List.not_mem_nil, or_false] at h
  rcases h with rfl | rfl <;> rfl

theorem insLaid : LaysGg.n26 Tryz.prog Tryz.stab_ren.viaGt := LaysGt.n29.elder { Tryz.stab with }

theorem sortWorldK_behind (W : World) (o : Obj) (blk n : Nat) (X : Array (ByteArray × ByteArray)) (os : Array Obj) (hblk : blk < W.heap.size) : ∃ os', sortWorldK encL 2 (W.alloc o) blk 0 n X os = sortWorldK encL 2 W blk 0 n X os' := by
  refine ⟨#[o] ++ os, ?_⟩
  have h := sortWorldK_of_alloc encL 2 W o blk 0 n X hblk
  unfold sortWorldK at h ⊢
  rw [h, grow_grow]

set_option maxHeartbeats 2000000 in
set_option maxRecDepth 100000 in
theorem stable_calls (g : Nat) (lb : Array Value) (sf : Nat) (sb : Array Value) (blk : Nat) (d : Array (ByteArray × ByteArray)) (W : World)
    (eg : ∀ args w, (callFunc g args).run Tryz.prog w = .ok (.enter g args) w) (hless : LessReadsK Tryz.prog g lb encL 2 ltN blk 0 d.size W) (hswap : SwapSwapsK Tryz.prog sf sb encL 2 blk 0 d.size)
    (hH : HoldsK encL 2 W blk 0 d) (hblk : blk < W.heap.size) (h20 : d.size ≤ 20) :
    Calls Tryz.prog 203 #[.agg #[.func (.func g) #[] lb, .func (.func sf) #[] sb], .int .i64 d.size] W fun e w' => e = .returned (.tuple #[]) ∧ ∃ n os, w' = sortWorldK encL 2 W blk 0 n (Sort.insertionSort ltN d 0 d.size) os := by
  have hSW := (SWK.start hH).alloc (.cells #[.func (.func g) #[] lb, .func (.func sf) #[] sb] 109)
  have hc : Calls Tryz.prog 131 #[.agg #[.func (.func g) #[] lb, .func (.func sf) #[] sb], .int .i64 (0 : Nat), .int .i64 d.size] (W.alloc (.cells #[.func (.func g) #[] lb, .func (.func sf) #[] sb] 109)) fun e w' => e = .returned (.tuple #[]) ∧ ∃ n os, w' = sortWorldK encL 2 (W.alloc (.cells #[.func (.func g) #[] lb, .func (.func sf) #[] sb] 109)) blk 0 n (Sort.insertionSort ltN d 0 d.size) os :=
    Any.insertionSort_func_cells_w insLaid encL 2 encL_len ltN g lb sf sb blk 0 0 d.size d _ eg (hSW.lessReads hless hblk rfl) hswap (hSW.holds hblk hH rfl) (hSW.lt hblk) (Nat.zero_le _) (Nat.le_refl _) (by omega)
  have hn : ∀ w1, Calls Tryz.prog 131 #[.agg #[.func (.func g) #[] lb, .func (.func sf) #[] sb], .int .i64 (20 : Nat), .int .i64 (20 : Nat)] w1 fun e w' => e = .returned (.tuple #[]) ∧ w' = w1.alloc (.cells #[.func (.func g) #[] lb, .func (.func sf) #[] sb] 109) := fun w1 =>
    Any.insertionSort_func_none insLaid (.func g) #[] lb sf sb 20 20 (by omega) (by omega) w1
  have bx : ∀ (k : Nat) (v : Value), (W.alloc (.cells #[.func (.func g) #[] lb, .func (.func sf) #[] sb] 109)).cell? ⟨W.heap.size, k, none⟩ = some v → ∀ n (X : Array (ByteArray × ByteArray)) os, (sortWorldK encL 2 (W.alloc (.cells #[.func (.func g) #[] lb, .func (.func sf) #[] sb] 109)) blk 0 n X os).cell? ⟨W.heap.size, k, none⟩ = some v := fun k v h n X os => by
    unfold sortWorldK
    rw [cell?_grow _ _ _ (by rw [size_putRowK]; show W.heap.size < (W.alloc _).heap.size; simp), cell?_putRowK_other encL 2 _ blk 0 _ _ (show W.heap.size ≠ blk by omega)]; exact h
  have bx0 := bx 0 (.func (.func g) #[] lb) (by simp)
  have bx1 := bx 1 (.func (.func sf) #[] sb) (by simp)
  have HB := Aside0.mk hblk
  clear hless hswap hH hSW bx
  rcases Nat.lt_or_ge d.size 20 with h | h
  · clear bx0 bx1 hn
    go_enter Tryz.func203, Tryz.ntmps203
    go_wp2
    refine wp_loop_rounds 1 ?_
    rw [rounds_succ]
    go_wp2_with (go_at_call 131; refine hc.mono ?_; rintro e w1 ⟨rfl, n, os, rfl⟩)
    refine wp_loop_rounds 1 ?_
    rw [rounds_succ]
    go_wp2
    all_goals first
      | (exfalso; omega)
      | (go_end0
         obtain ⟨os', ho⟩ := sortWorldK_behind W (.cells #[.func (.func g) #[] lb, .func (.func sf) #[] sb] 109) blk n (Sort.insertionSort ltN d 0 d.size) os HB.out
         exact ⟨rfl, n, os', ho⟩)
  · have h' : d.size = 20 := by omega
    rw [h'] at hc ⊢
    clear h h' h20 eg
    go_enter Tryz.func203, Tryz.ntmps203
    go_wp2
    refine wp_loop_rounds 2 ?_
    rw [rounds_succ]
    go_wp2_with (go_at_call_of 131 (Value.int .i64 0); refine hc.mono ?_; rintro e w1 ⟨rfl, n, os, rfl⟩)
    rw [rounds_succ]
    go_wp2_with (go_at_call 131; refine (hn _).mono ?_; rintro e w2 ⟨rfl, rfl⟩)
    refine wp_loop_rounds 1 ?_
    rw [rounds_succ]
    go_wp2
    go_end0
    obtain ⟨os', ho⟩ := sortWorldK_behind W (.cells #[.func (.func g) #[] lb, .func (.func sf) #[] sb] 109) blk n (Sort.insertionSort ltN d 0 20) os HB.out
    refine ⟨rfl, n, os' ++ #[.cells #[.func (.func g) #[] lb, .func (.func sf) #[] sb] 109], ?_⟩
    rw [ho]
    unfold sortWorldK
    rw [alloc_eq_grow, grow_grow]

noncomputable def siT : TypeInfo := (Tryz.prog.info? 22).get (by kernel_rfl)
noncomputable def siE : TypeInfo := (Tryz.prog.info? 70).get (by kernel_rfl)
theorem siT_is : Tryz.prog.info? 22 = some siT := by kernel_rfl
theorem siE_is : Tryz.prog.info? 70 = some siE := by kernel_rfl
theorem siK0 : Lib.swapperK 0 siE 25 = 1 := rfl
theorem siK1 : Lib.swapperK 1 siE 25 = 2 := rfl
theorem siK2 (n : Nat) (h : 2 ≤ n) : Lib.swapperK n siE 25 = 9 := by
  have a : siE.hasPointers = true := by kernel_rfl
  have b : siE.bytes = 32 := by kernel_rfl
  have c : (n == 0) = false := by simp; omega
  have d : (n == 1) = false := by simp; omega
  simp [Lib.swapperK, a, b, c, d]

/-- **sort.SliceStable at no more than 20 labels.** -/
theorem sliceStable_calls (g : Nat) (lb : Array Value) (blk c : Nat) (d : Array (ByteArray × ByteArray)) (w : World)
    (eg : ∀ args w, (callFunc g args).run Tryz.prog w = .ok (.enter g args) w) (hless : LessReadsK Tryz.prog g lb encL 2 ltN blk 0 d.size w)
    (hH : HoldsK encL 2 w blk 0 d) (hblk : blk < w.heap.size) (h20 : d.size ≤ 20) :
    Calls Tryz.prog 142 #[.iface 22 (.slice (some ⟨blk, 0, none⟩) d.size c), .func (.func g) #[] lb] w fun e w' => e = .returned (.tuple #[]) ∧ ∃ n os, w' = sortWorldK encL 2 w blk 0 n (Sort.insertionSort ltN d 0 d.size) os := by
  rcases Nat.lt_or_ge d.size 2 with h2 | h2
  · have hs : Sort.insertionSort ltN d 0 d.size = d := by
      have h := insertionSort_holds (lt := ltN) swo_ltN d 0 d.size (Nat.zero_le _) (Nat.le_refl _)
      have hp := perm_of_in h.1
      obtain ⟨l⟩ := d
      apply Array.ext'
      rcases l with _ | ⟨x, _ | ⟨y, tl⟩⟩
      · exact List.perm_nil.1 hp
      · exact List.perm_singleton.1 hp
      · exfalso; have h5 : tl.length + 1 + 1 < 2 := h2; omega
    have hf : ∃ f, Tryz.prog.funcs.findIdx? (·.name == "internal/reflectlite" ++ ".Swapper$" ++ toString (swapperK d.size siE 25)) = some f := by
      rcases (show d.size = 0 ∨ d.size = 1 by omega) with e | e
      · rw [e, siK0]; exact ⟨120, by kernel_rfl⟩
      · rw [e, siK1]; exact ⟨121, by kernel_rfl⟩
    obtain ⟨f, hf⟩ := hf
    refine (Any.sort_SliceStable_tiny Tryz.stab 22 70 siT siE siT_is (by kernel_rfl) (by kernel_rfl) siE_is 25 (fun _ => by kernel_rfl) (some ⟨blk, 0, none⟩) d.size c (by omega) f hf (.func g) #[] lb w).mono ?_
    rintro e w' ⟨rfl, os, rfl⟩
    exact ⟨rfl, 0, os, by rw [hs]; unfold sortWorldK; rw [show Sort.ahead w 0 = w from rfl, putRowK_self encL 2 w blk 0 d hH]⟩
  · have hB : sliceBound Tryz.prog 70 siE 25 (some ⟨blk, 0, none⟩) d.size c = #[.slice (some ⟨blk, 0, none⟩) d.size c, typeHandle Tryz.prog 70] := by
      unfold sliceBound; rw [if_neg (swapperK_gt _ _ _ h2)]
    refine Any.sort_SliceStable_of_stable Tryz.stab 22 70 siT siE siT_is (by kernel_rfl) (by kernel_rfl) siE_is 25 (fun _ => by kernel_rfl) _ d.size c (by omega) 128 (by rw [siK2 _ h2]; kernel_rfl) (.func g) #[] lb w _ ?_
    have hW : stableWorld Tryz.prog Tryz.stab_ren 22 (some ⟨blk, 0, none⟩) d.size c w = grow w #[.cells #[.slice (some ⟨blk, 0, none⟩) d.size c] 22, .cells #[.pointer (some ⟨Tryz.prog.globals.size, 22, none⟩), .pointer (some ⟨w.heap.size, 0, none⟩), .int .u64 151] (Tryz.stab_ren.t 36)] := by
      unfold stableWorld; rw [alloc_eq_grow, alloc_eq_grow, grow_grow]; rfl
    generalize (#[.cells #[.slice (some ⟨blk, 0, none⟩) d.size c] 22, .cells #[.pointer (some ⟨Tryz.prog.globals.size, 22, none⟩), .pointer (some ⟨w.heap.size, 0, none⟩), .int .u64 151] (Tryz.stab_ren.t 36)] : Array Obj) = os0 at hW
    rw [hB, hW]
    have hx : ∀ args W, (callFunc 128 args).run Tryz.prog W = ((Extern.ReflectliteSwapper.swap false args).run Tryz.prog W).andThen fun v w' => .ok (.value v) w' :=
      fun args W => run_callFunc_extern Tryz.func128 (by kernel_rfl) (by kernel_rfl) (by kernel_rfl) (e := Extern.ReflectliteSwapper.swap false) (by kernel_rfl) args W
    refine (stable_calls g lb 128 _ blk d (grow w os0) eg (hless.grow hblk os0) (swapSwapsK_of_literal false 128 hx 70 siE siE_is encL 2 encL_len (by kernel_rfl) (fun _ => by kernel_rfl) encL_one blk 0 d.size c) (holdsK_grow encL 2 w _ blk 0 d hblk hH) (by rw [size_grow]; omega) h20).mono ?_
    rintro e w' ⟨rfl, n, os, rfl⟩
    exact ⟨rfl, n, _, by unfold sortWorldK; rw [ahead_grow, putRowK_grow encL 2 (Sort.ahead w n) _ blk 0 _ hblk, grow_grow]⟩
end Go.Proofs.YtobbfenkdnaanaaGreatDoor
