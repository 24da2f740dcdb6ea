/- The package's UnescapeName by dots, of any text. -/
import Derived.Test.YtaajhionmdjhjaaDoorUneW
set_option linter.unusedVariables false
set_option linter.unusedSimpArgs false
namespace Go.Proofs.YtaajhionmdjhjaaDoor
open Go.RowKit

/-- What unescaping by dots makes of a text: the first replacement, and both. -/
def undot1 (e : ByteArray) : ByteArray := ⟨(Lib.replaceK [95, 100, 111, 116, 95] [46] (e.size + 1) e.data.toList).toArray⟩
def undot (e : ByteArray) : ByteArray := ⟨(Lib.replaceK [95, 95] [95] ((undot1 e).size + 1) (undot1 e).data.toList).toArray⟩
theorem undot1_size (e : ByteArray) : (undot1 e).size ≤ e.size := by
  have := replaceK_len [95, 100, 111, 116, 95] [46] (by simp) (e.size + 1) e.data.toList
  rw [← Lib.size_eq e] at this
  show (Lib.replaceK _ _ _ _).toArray.size ≤ _
  rw [List.size_toArray]
  exact this

set_option maxHeartbeats 1000000 in
set_option maxRecDepth 100000 in
theorem unesc2_calls (e : ByteArray) (he : e.size ≤ 100000) (w : World) :
    Calls Tryd.prog 67 #[.string e, .int .i64 2] w fun x w' => x = .returned (.string (undot e)) ∧ Below w.heap.size w w' := by
  by_cases h0 : e.size = 0
  · have hE : e = ⟨#[]⟩ := by
      have : e.data.toList = [] := List.eq_nil_of_length_eq_zero (by rw [← Lib.size_eq]; exact h0)
      exact ByteArray.ext (Array.ext' this)
    subst hE
    go_enter Tryd.func67, Tryd.ntmps67
    go_wp2
    go_ret
    exact ⟨rfl, Below.refl _ _⟩
  · have c0 : ((e.size : Int) == 0) = false := beq_eq_false_iff_ne.2 (by omega)
    have hs1 := undot1_size e
    clear h0
    go_enter Tryd.func67, Tryd.ntmps67
    go_wp2_with fail
    refine (zzReplaceAll_calls e ⟨#[95, 100, 111, 116, 95]⟩ ⟨#[46]⟩ he (by decide) (by decide) (by decide) _).mono ?_
    rintro x w1 ⟨rfl, hb1⟩
    rw [show (⟨(Lib.replaceK (⟨#[95, 100, 111, 116, 95]⟩ : ByteArray).data.toList (⟨#[46]⟩ : ByteArray).data.toList (e.size + 1) e.data.toList).toArray⟩ : ByteArray) = undot1 e from rfl]
    have HB1 := Aside0.mk hb1; clear hb1
    go_wp2_with fail
    refine (zzReplaceAll_calls (undot1 e) ⟨#[95, 95]⟩ ⟨#[95]⟩ (by omega) (by decide) (by decide) (by decide) _).mono ?_
    rintro x w2 ⟨rfl, hb2⟩
    rw [show (⟨(Lib.replaceK (⟨#[95, 95]⟩ : ByteArray).data.toList (⟨#[95]⟩ : ByteArray).data.toList ((undot1 e).size + 1) (undot1 e).data.toList).toArray⟩ : ByteArray) = undot e from rfl]
    have HB2 := Aside0.mk hb2; clear hb2
    go_wp2
    try rw [Exit.noGoto_ret]
    first | go_ret | (unfold Exit.inBlock; go_ret) | (simp only [Exit.inBlock]; go_ret)
    exact ⟨rfl, below_step HB1.out HB2.out⟩
end Go.Proofs.YtaajhionmdjhjaaDoor
