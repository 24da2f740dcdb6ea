/- impl.Unescape, by contract; what it gives back of an escaped text. -/
import Derived.Test.YtaajhionmdjhjaaDoorUneS
set_option linter.unusedVariables false
set_option linter.unusedSimpArgs false
namespace Go.Proofs.YtaajhionmdjhjaaDoor
open Go.RowKit

/-- The package's UnescapeName gives t of e. -/
def UnT (k : Nat) (e t : ByteArray) : Prop := ∀ w : World, Calls Tryd.prog 67 #[.string e, .int .i64 (k : Int)] w fun x w' => x = .returned (.string t) ∧ Below w.heap.size w w'

set_option maxHeartbeats 1000000 in
set_option maxRecDepth 100000 in
theorem unesc1_calls (k : Nat) (hk : k ≤ 3) (s t : ByteArray) (hU : UnT k s t) (w : World) :
    Calls Tryd.prog 66 #[.pointer (some ⟨w.heap.size, 0, none⟩), .pointer (some ⟨w.heap.size + 1, 0, none⟩), .pointer (some ⟨w.heap.size + 2, 0, none⟩)] ((((w.alloc (.cells #[.string s] 9)).alloc (.cells #[.int .i64 (k : Int)] 3)).alloc (.cells #[.string ⟨#[]⟩] 9)).alloc (.cells #[.bool false] 4)) fun e w' =>
      e = .returned (.tuple #[]) ∧ TextR w t w' := by
  have K1 := Aside0.mk (below_alloc (below_alloc (below_alloc (below_alloc (Below.refl w.heap.size w) (.cells #[.string s] 9)) (.cells #[.int .i64 (k : Int)] 3)) (.cells #[.string ⟨#[]⟩] 9)) (.cells #[.bool false] 4))
  have HU := Aside0.mk hU
  clear hU
  go_enter Tryd.func66, Tryd.ntmps66
  go_wp2_with fail
  refine (HU.out _).mono ?_
  rintro e w1 ⟨rfl, hb⟩
  have e1 := hb.cell (p := ⟨w.heap.size + 2, 0, none⟩) (by simp)
  have e2 := hb.frozen (p := ⟨w.heap.size + 2, 0, none⟩) (by simp)
  have e3 := hb.cell (p := ⟨w.heap.size + 3, 0, none⟩) (by simp)
  have e4 := hb.frozen (p := ⟨w.heap.size + 3, 0, none⟩) (by simp)
  have e5 := hb.size
  simp [go_sem] at e1 e2 e3 e4 e5
  have HB := Aside0.mk hb
  clear hb
  go_wp2
  go_end0
  refine ⟨rfl, (below_step K1.out HB.out).setCell (p := ⟨w.heap.size + 2, 0, none⟩) (by simp) _, by simp [World.setCell]; omega, ?_, ?_, ?_, ?_⟩
  · simp [go_sem, e1]
  · simp [go_sem, e2]
  · simp [go_sem, e3]
  · simp [go_sem, e4]

set_option maxRecDepth 100000 in
theorem implUnescape_calls (k : Nat) (hk : k ≤ 3) (s t : ByteArray) (hU : UnT k s t) (w : World) :
    Calls Tryd.prog 30 #[.string s, .int .i64 (k : Int)] w fun e w' => e = .returned (.string t) ∧ Below w.heap.size w w' := by
  have HU := Aside0.mk hU; clear hU
  go_enter Tryd.func30, Tryd.ntmps30
  go_wp2_with fail
  refine (safe_calls 66 _ _ (TextR w t) (fun _ => by simp [go_sem]) (unesc1_calls k hk s t HU.out w) ?_).mono ?_
  · rintro w' ⟨_, _, _, _, hc, hf⟩
    simpa using ⟨hc, hf⟩
  rintro e w2 ⟨rfl, w1, ⟨hb, hs1, hc, hf, _, _⟩, hb2⟩
  have f1 := (hb2.cell (p := ⟨w.heap.size + 2, 0, none⟩) (by simp)).trans hc
  have f2 := (hb2.frozen (p := ⟨w.heap.size + 2, 0, none⟩) (by simp)).trans hf
  have HF := Aside0.mk (hb.trans (hb2.mono (by simp; omega)))
  clear hb hs1 hc hf hb2
  go_wp2
  refine bodyPost_ret (v := .string t) (by simp [results, Tryd.results30, go_sem, f1, f2]) rfl ⟨rfl, ?_⟩
  exact HF.out.setCell (p := ⟨w.heap.size + 2, 0, none⟩) (by simp) _

theorem unT_same (k : Nat) (hk : k ≤ 1) (s : ByteArray) : UnT k s s := fun w => (unesc01_calls k hk s w).mono fun _ _ h => ⟨h.1, by rw [h.2]; exact Below.refl _ _⟩
theorem unT_dots (e : ByteArray) (he : e.size ≤ 100000) : UnT 2 e (undot e) := fun w => unesc2_calls e he w
theorem unT_values (s : ByteArray) (hs : s.size ≤ 200) (hv : Lib.validD s.data.toList = true) (hp : Lib.hasPrefix s.data.toList [85, 95, 95] = false) (hlow : lowFrom s (s.size + 1) 0) : UnT 3 (escOut 3 s) s := by
  intro w
  have hsz := escOut_size 3 s hs
  unfold escOut at hsz ⊢
  split
  · exact (unesc3_plain s hp w).mono fun _ _ h => ⟨h.1, by rw [h.2]; exact Below.refl _ _⟩
  · rename_i h
    rw [if_neg h] at hsz
    have h0 : s.size ≠ 0 := fun e => h (.inr (.inl e))
    have hsz2 : (escT 3 s).length ≤ 10000 := by
      have : (⟨(escT 3 s).toArray⟩ : ByteArray).size = (escT 3 s).length := List.size_toArray ..
      omega
    have hl : (escT 3 s).length = 3 + (escTail 3 s (s.size + 1) 0).length := by rw [escT_tail, List.length_append]; rfl
    refine unesc3_calls s ⟨(escTail 3 s (s.size + 1) 0).toArray⟩ hs h0 (List.toList_toArray ..) hv hlow _ ?_ ?_ w
    · show (escT 3 s).toArray.toList = _
      rw [List.toList_toArray, escT_tail]
      show [85, 95, 95] ++ _ = [85, 95, 95] ++ (escTail 3 s (s.size + 1) 0).toArray.toList
      rw [List.toList_toArray]
    · show (escTail 3 s (s.size + 1) 0).toArray.size ≤ _
      rw [List.size_toArray]; omega
end Go.Proofs.YtaajhionmdjhjaaDoor
