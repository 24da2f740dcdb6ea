/- A time's text: FormatFloat, Time.String, TimeText, by contract. -/
import Derived.Test.YtobbfenkdnaanaaGreatDoorTimF
import Derived.Laws.IdiomStrings
import Derived.Laws.MakeOwn
import Derived.Lib.FrozenHead
set_option linter.unusedVariables false
set_option linter.unusedSimpArgs false
namespace Go.Proofs.YtobbfenkdnaanaaGreatDoor
open Go.RowKit Go.Sort

theorem txt_string {w : World} {base : Nat} {v : Value} {t : List UInt8} (h : Txt w base v t) (ht : 1 ≤ t.length) :
    (convert 62 9 v).run Tryz.prog w = .ok (.string ⟨t.toArray⟩) w := by
  have hF := World.ownsRowF_of h
  rcases hF.2 with ⟨rfl, h0⟩ | ⟨g, cap, cur, fz, rfl, _⟩
  · omega
  · refine run_convert_bytes_back (P := Tryz.prog) w 62 9 5 ⟨g, 0, none⟩ cap t Tryz.underlying62 Tryz.underlying5 Tryz.underlying9 (fun j hj => ?_)
    refine hF.cells (g := g) rfl j _ ?_
    unfold bv
    simp [hj]

/-- The text that FormatFloat hands back. -/
def Ftext (neg : Bool) (N : Nat) : ByteArray := ⟨(if N = 0 then [48] else timeT neg N).toArray⟩

theorem timeT_pos (neg : Bool) (N : Nat) : 1 ≤ (timeT neg N).length := by
  unfold timeT
  have := Lib.nDigits_pos (N / 1000)
  simp only [List.length_append, Lib.decDigits_length]
  omega

/-- The slice that FormatFloat makes. -/
theorem make24 (w : World) : ∃ w', (Instr.makeSlice 62 (.int .i64 0) (.int .i64 (max 3 24))).run Tryz.prog w = .ok (.slice (some ⟨w.heap.size, 0, none⟩) 0 24) w' ∧ Txt w' w.heap.size (.slice (some ⟨w.heap.size, 0, none⟩) 0 24) [] ∧ Below w.heap.size w w' ∧ w.heap.size < w'.heap.size := by
  obtain ⟨i0, hi, hz0, hz1, hz2⟩ := info_parts infoB
  obtain ⟨w', h1, h2, h3⟩ := run_makeSlice_owned (P := Tryz.prog) w w.heap.size 62 5 i0 (.int .u8 0) 1 Tryz.underlying62 hi hz0 hz1 .i64 .i64 24 (by decide) (by rw [hz2]; decide) (by decide) (Nat.le_refl _)
  exact ⟨w', h1, h2, ⟨h3.os, h3.tape, h3.output, h3.size, fun k hk => h3.block k hk (by simp)⟩, (World.ownsRow.lt h2 _ rfl).2⟩

theorem st_start {w w' : World} (hg : 16 ≤ w.heap.size) (h1 : Txt w' w.heap.size (.slice (some ⟨w.heap.size, 0, none⟩) 0 24) []) (h2 : w.heap.size < w'.heap.size) : St w' w.heap.size 0 [] (.slice (some ⟨w.heap.size, 0, none⟩) 0 24) [] w' :=
  ⟨h1, (fun j x h => by cases h), (fun e => by have e2 : 0 = w.heap.size := Option.some.inj e; omega), by omega, Below.refl _ _, by omega⟩

set_option maxHeartbeats 1000000 in
set_option maxRecDepth 100000 in
theorem fmtFloat_calls {N T M : Nat} (hN : 1 ≤ N) (hN2 : N < 10 ^ 15) (ht : Thou N T M) (neg : Bool) (W : Nat) (hW : W = (if neg then 2 ^ 63 else 0) + ((1074 - T) * 2 ^ 52 + M)) (w : World) (hT : PowT w) (hG : Glob w) :
    Calls Tryz.prog 222 #[.float .f64 W, .int .u8 102, .int .i64 (-1), .int .i64 64] w fun e w' => e = .returned (.string (Ftext neg N)) ∧ Below w.heap.size w w' := by
  obtain ⟨w1, hmk, hx1, hb1, hs1⟩ := make24 w
  have HC := Aside0.mk (ftoa_calls hN hN2 ht neg W hW _ w.heap.size w1 (st_start hT.size hx1 hs1) (hT.next hb1) (hG.next hb1))
  have HB1 := Aside0.mk hb1
  have HF := Aside0.mk (show Ftext neg N = ⟨(timeT neg N).toArray⟩ by unfold Ftext; rw [if_neg (by omega)])
  clear hT hG ht hW hx1 hb1 hs1
  go_enter Tryz.func222, Tryz.ntmps222
  go_wp2_with fail
  refine HC.out.mono ?_
  rintro e w2 ⟨t, hsh, v, rfl, htx, hb2⟩
  rw [short_text hN hsh] at htx
  have hcv := txt_string htx (timeT_pos neg N)
  have HB2 := Aside0.mk (HB1.out.trans hb2)
  clear htx hb2 hsh
  go_wp2_with fail
  go_ret
  exact ⟨by rw [HF.out]; rfl, HB2.out⟩

set_option maxHeartbeats 1000000 in
set_option maxRecDepth 100000 in
theorem fmtFloat0_calls (w : World) (hT : PowT w) :
    Calls Tryz.prog 222 #[.float .f64 0, .int .u8 102, .int .i64 (-1), .int .i64 64] w fun e w' => e = .returned (.string (Ftext false 0)) ∧ Below w.heap.size w w' := by
  obtain ⟨w1, hmk, hx1, hb1, hs1⟩ := make24 w
  have HC := Aside0.mk (ftoa0_calls _ w.heap.size w1 (st_start hT.size hx1 hs1))
  have HB1 := Aside0.mk hb1
  clear hT hx1 hb1 hs1
  go_enter Tryz.func222, Tryz.ntmps222
  go_wp2_with fail
  refine HC.out.mono ?_
  rintro e w2 ⟨v, rfl, htx, hb2⟩
  have hcv := txt_string htx (by decide)
  have HB2 := Aside0.mk (HB1.out.trans hb2)
  clear htx hb2
  go_wp2_with fail
  go_ret
  exact ⟨rfl, HB2.out⟩

/-- What a whole number of thousandths is as a float's quotient. -/
theorem quo_of (n : Int) (h : n.natAbs < 10 ^ 15) : ∃ A W, floatOfInt .f64 n = A ∧ floatBits .quo .f64 A 4652007308841189376 = some W ∧
    ((n = 0 ∧ W = 0) ∨ (1 ≤ n.natAbs ∧ ∃ T M, Thou n.natAbs T M ∧ W = (if decide (n < 0) then 2 ^ 63 else 0) + ((1074 - T) * 2 ^ 52 + M))) := by
  by_cases hz : n = 0
  · subst hz
    exact ⟨0, 0, by decide +kernel, by decide +kernel, Or.inl ⟨rfl, rfl⟩⟩
  · obtain ⟨N, hN⟩ : ∃ N, N = n.natAbs := ⟨_, rfl⟩
    rw [← hN] at h ⊢
    have h1 : 1 ≤ N := by omega
    obtain ⟨T, M, ht, hq⟩ := thou_of h1 h (decide (n < 0))
    have hl := log2_bounds (show N ≠ 0 by omega)
    have hL : N.log2 < 50 := (Nat.log2_lt (by omega)).2 (Nat.lt_of_lt_of_le h (by decide))
    have ha : floatOfInt .f64 n = (if decide (n < 0) then 2 ^ 63 else 0) + ((1022 + N.log2) * 2 ^ 52 + N * 2 ^ (52 - N.log2)) := by
      show Ieee.double.nearest (decide (n < 0)) n.natAbs 0 = _
      rw [← hN]
      exact word_int _ N h1 (Nat.lt_of_lt_of_le h (by decide))
    refine ⟨_, _, rfl, ?_, Or.inr ⟨h1, T, M, ht, rfl⟩⟩
    rw [ha]
    show ((Ieee.double.read _).quotient 54 (Ieee.double.read 4652007308841189376)).map Ieee.double.write = _
    have b1 : 2 ^ 52 ≤ N * 2 ^ (52 - N.log2) := by
      have := Nat.mul_le_mul_right (2 ^ (52 - N.log2)) hl.1
      rwa [← Nat.pow_add, show N.log2 + (52 - N.log2) = 52 by omega] at this
    have b2 : N * 2 ^ (52 - N.log2) < 2 ^ 53 := by
      have := Nat.mul_lt_mul_of_pos_right hl.2 (Nat.two_pow_pos (52 - N.log2))
      rwa [← Nat.pow_add, show N.log2 + 1 + (52 - N.log2) = 53 by omega] at this
    rw [read_word _ _ _ (by omega) b1 b2, read_thousand, show ((1022 + N.log2 : Nat) : Int) - 1074 = (N.log2 : Int) - 52 by omega]
    exact hq

set_option maxHeartbeats 1000000 in
set_option maxRecDepth 100000 in
theorem pubFloat_calls (b : Nat) (s : ByteArray) (w : World) (h : Calls Tryz.prog 222 #[.float .f64 b, .int .u8 102, .int .i64 (-1), .int .i64 64] w fun e w' => e = .returned (.string s) ∧ Below w.heap.size w w') :
    Calls Tryz.prog 168 #[.float .f64 b, .int .u8 102, .int .i64 (-1), .int .i64 64] w fun e w' => e = .returned (.string s) ∧ Below w.heap.size w w' := by
  have HC := Aside0.mk h
  clear h
  go_enter Tryz.func168, Tryz.ntmps168
  go_wp2_with fail
  refine HC.out.mono ?_
  rintro e w2 ⟨rfl, hb⟩
  go_wp2
  go_ret
  exact ⟨rfl, hb⟩

/-- A time's text. -/
def timeTx (n : Int) : ByteArray := Ftext (decide (n < 0)) n.natAbs

set_option maxHeartbeats 1000000 in
set_option maxRecDepth 100000 in
theorem timeString_calls (n : Int) (h : n.natAbs < 10 ^ 15) (w : World) (hT : PowT w) (hG : Glob w) :
    Calls Tryz.prog 105 #[.int .i64 n] w fun e w' => e = .returned (.string (timeTx n)) ∧ Below w.heap.size w w' := by
  obtain ⟨A, W, hA, hq, hW⟩ := quo_of n h
  have HC : Aside0 (Calls Tryz.prog 168 #[.float .f64 W, .int .u8 102, .int .i64 (-1), .int .i64 64] w fun e w' => e = .returned (.string (timeTx n)) ∧ Below w.heap.size w w') := by
    refine ⟨?_⟩
    rcases hW with ⟨rfl, rfl⟩ | ⟨h1, T, M, ht, rfl⟩
    · exact pubFloat_calls 0 _ w (fmtFloat0_calls w hT)
    · exact pubFloat_calls _ _ w (fmtFloat_calls h1 h ht _ _ rfl w hT hG)
  have hop : ∀ t w, (binOp .quo t (.float .f64 A) (.float .f64 4652007308841189376)).run Tryz.prog w = .ok (.float .f64 W) w := fun t w => run_float_arith w .quo t .f64 A _ W hq
  clear hW hT hG hq h
  go_enter Tryz.func105, Tryz.ntmps105
  go_wp2_with fail
  refine HC.out.mono ?_
  rintro e w2 ⟨rfl, hb⟩
  go_wp2
  go_ret
  exact ⟨rfl, hb⟩

set_option maxHeartbeats 1000000 in
set_option maxRecDepth 100000 in
theorem timeText_calls (n : Int) (h : n.natAbs < 10 ^ 15) (w : World) (hT : PowT w) (hG : Glob w) :
    Calls Tryz.prog 40 #[.int .i64 n] w fun e w' => e = .returned (.string (timeTx n)) ∧ Below w.heap.size w w' := by
  have HC := Aside0.mk (timeString_calls n h w hT hG)
  clear h hT hG
  go_enter Tryz.func40, Tryz.ntmps40
  go_wp2_with fail
  refine HC.out.mono ?_
  rintro e w2 ⟨rfl, hb⟩
  go_wp2
  go_ret
  exact ⟨rfl, hb⟩
end Go.Proofs.YtobbfenkdnaanaaGreatDoor
