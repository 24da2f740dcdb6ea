/- The reference's text of a time, by contract. -/
import Derived.Test.YtobbfenkdnaanaaGreatDoorTimG
import Derived.Test.YtobbfenkdnaanaaGreatDoorTmx
set_option linter.unusedVariables false
set_option linter.unusedSimpArgs false
namespace Go.Proofs.YtobbfenkdnaanaaGreatDoor
open Go.RowKit Go.Sort

theorem grow_below2 (w : World) (k : Nat) (os : Array Obj) : Below w.heap.size w (Sort.grow (w.drewN k) os) := by
  refine ⟨rfl, rfl, rfl, ?_, fun i hi => ?_⟩
  · show w.heap.size ≤ (w.heap ++ os).size
    simp
  · show (w.heap ++ os)[i]? = w.heap[i]?
    rw [Array.getElem?_append_left hi]

theorem format_at (x : Int) (q : Nat) (hx : x = (q : Int)) (hq : q ≤ 9223372036854775807) (w : World) (hG : Glob w) :
    Calls Tryz.prog 108 #[.int .i64 x, .int .i64 10] w fun e w' => e = .returned (.string ⟨(Lib.decDigits q).toArray⟩) ∧ Below w.heap.size w w' := by
  subst hx
  refine (Tryz.strconv_FormatInt_10 (q : Int) (by omega) (by omega) w hG.pow).mono ?_
  rintro e w' ⟨rfl, k, os, rfl⟩
  exact ⟨by rw [Lib.itoa_nonneg], grow_below2 _ _ _⟩

theorem format_thou (x : Int) (r : Nat) (hx : x = ((1000 + r : Nat) : Int)) (hr : r < 1000) (a b c : UInt8) (h3 : d3 r = [a, b, c]) (w : World) (hG : Glob w) :
    Calls Tryz.prog 108 #[.int .i64 x, .int .i64 10] w fun e w' => e = .returned (.string ⟨#[49, a, b, c]⟩) ∧ Below w.heap.size w w' := by
  have h := format_at x (1000 + r) hx (by omega) w hG
  rwa [decDigits_thou (by omega), show (1000 + r) / 1000 = 1 by omega, show (1000 + r) % 1000 = r by omega, show Lib.decDigits 1 = [49] by rw [Lib.decDigits, dif_pos (by decide)]; rfl, h3] at h

theorem bapp (a b : List UInt8) : (⟨a.toArray⟩ : ByteArray) ++ ⟨b.toArray⟩ = ⟨(a ++ b).toArray⟩ := by
  apply ByteArray.ext
  simp [ByteArray.data_append]

theorem extract14 (a b c : UInt8) : (⟨#[49, a, b, c]⟩ : ByteArray).extract 1 4 = ⟨#[a, b, c]⟩ := by rfl

theorem trimR_length (l : List UInt8) : (trimR l).length ≤ l.length := by
  unfold trimR
  rw [List.length_reverse]
  exact Nat.le_trans (List.dropWhile_suffix _).length_le (by simp)

theorem trim_at (a b c : UInt8) (tt : List UInt8) (ht : trimR [a, b, c] = tt) (w : World) :
    Calls Tryz.prog 109 #[.string ((⟨#[49, a, b, c]⟩ : ByteArray).extract 1 4), .string ⟨#[48]⟩] w fun e w' => e = .returned (.string ⟨tt.toArray⟩) ∧ w' = w := by
  rw [extract14, ← ht]
  exact Any.strings_TrimRight_one Tryz.laysTrimR ⟨#[a, b, c]⟩ 48 (by decide) w (by show 3 ≤ _; omega)

set_option maxHeartbeats 1000000 in
set_option maxRecDepth 100000 in
theorem rtimeText_neg (N : Nat) (h : N < 10 ^ 15) (hp : 0 < N) (w : World) (hG : Glob w) :
    Calls Tryz.prog 42 #[.int .i64 (-(N : Int))] w fun e w' => e = .returned (.string ⟨(timeT true N).toArray⟩) ∧ Below w.heap.size w w' := by
  have HG := Aside0.mk hG
  clear hG
  have c0 : decide (0 < N) = true := decide_eq_true hp
  obtain ⟨A, hA⟩ : ∃ A, A = Lib.decDigits (N / 1000) := ⟨_, rfl⟩
  have hAl : A.length ≤ 15 := by rw [hA, Lib.decDigits_length]; exact nDigits_le 14 _ (by omega)
  have HF := Aside0.mk (fun x hx w hg => format_at x (N / 1000) hx (by omega) w hg)
  rw [← hA] at HF
  by_cases hr : N % 1000 = 0
  · have cr : ((N : Int) % 1000 != 0) = false := bne_eq_false_iff_eq.2 (by omega)
    have HT := Aside0.mk (show timeT true N = [45] ++ A by rw [hA]; unfold timeT; rw [if_pos hr]; simp)
    clear hA
    go_enter Tryz.func42, Tryz.ntmps42
    go_wp2_with fail
    refine (HF.out _ (by omega) _ HG.out).mono ?_
    rintro e w1 ⟨rfl, hb1⟩
    go_wp2_with fail
    go_ret
    refine ⟨?_, hb1⟩
    rw [HT.out]
    rfl
  · have cr : ((N : Int) % 1000 != 0) = true := bne_iff_ne.2 (by omega)
    obtain ⟨d1, d2, d4, h3⟩ : ∃ a b c, d3 (N % 1000) = [a, b, c] := ⟨_, _, _, rfl⟩
    have H3 := Aside0.mk h3
    obtain ⟨tt, htt⟩ : ∃ tt, trimR [d1, d2, d4] = tt := ⟨_, rfl⟩
    have htl : tt.length ≤ 3 := by rw [← htt]; exact trimR_length _
    have HTT := Aside0.mk htt
    have HT := Aside0.mk (show timeT true N = [45] ++ A ++ 46 :: tt by rw [hA, ← htt, ← h3]; unfold timeT; rw [if_neg hr]; rfl)
    clear h3 htt
    clear hA
    go_enter Tryz.func42, Tryz.ntmps42
    go_wp2_with fail
    refine (HF.out _ (by omega) _ HG.out).mono ?_
    rintro e w1 ⟨rfl, hb1⟩
    have HB1 := Aside0.mk hb1
    clear hb1
    go_wp2_with fail
    refine (format_thou _ (N % 1000) (by omega) (Nat.mod_lt _ (by decide)) d1 d2 d4 H3.out _ (HG.out.next HB1.out)).mono ?_
    rintro e w2 ⟨rfl, hb2⟩
    have HB2 := Aside0.mk (below_step HB1.out hb2)
    clear hb2
    go_wp2_with fail
    refine (trim_at d1 d2 d4 tt HTT.out _).mono ?_
    rintro e w3 ⟨rfl, rfl⟩
    go_wp2_with fail
    go_ret
    refine ⟨?_, HB2.out⟩
    rw [HT.out]
    show Ending.returned (.string ((⟨[45].toArray⟩ : ByteArray) ++ ⟨A.toArray⟩ ++ ((⟨[46].toArray⟩ : ByteArray) ++ ⟨tt.toArray⟩))) = _
    rw [bapp, bapp, bapp]
    rfl

set_option maxHeartbeats 1000000 in
set_option maxRecDepth 100000 in
theorem rtimeText_pos (N : Nat) (h : N < 10 ^ 15) (w : World) (hG : Glob w) :
    Calls Tryz.prog 42 #[.int .i64 (N : Int)] w fun e w' => e = .returned (.string ⟨(timeT false N).toArray⟩) ∧ Below w.heap.size w w' := by
  have HG := Aside0.mk hG
  clear hG
  have c0 : decide ((N : Int) < 0) = false := decide_eq_false (by omega)
  obtain ⟨A, hA⟩ : ∃ A, A = Lib.decDigits (N / 1000) := ⟨_, rfl⟩
  have hAl : A.length ≤ 15 := by rw [hA, Lib.decDigits_length]; exact nDigits_le 14 _ (by omega)
  have HF := Aside0.mk (fun x hx w hg => format_at x (N / 1000) hx (by omega) w hg)
  rw [← hA] at HF
  by_cases hr : N % 1000 = 0
  · have cr : ((N : Int) % 1000 != 0) = false := bne_eq_false_iff_eq.2 (by omega)
    have HT := Aside0.mk (show timeT false N = [] ++ A by rw [hA]; unfold timeT; rw [if_pos hr]; simp)
    clear hA
    go_enter Tryz.func42, Tryz.ntmps42
    go_wp2_with fail
    refine (HF.out _ (by omega) _ HG.out).mono ?_
    rintro e w1 ⟨rfl, hb1⟩
    go_wp2_with fail
    go_ret
    refine ⟨?_, hb1⟩
    rw [HT.out]
    rfl
  · have cr : ((N : Int) % 1000 != 0) = true := bne_iff_ne.2 (by omega)
    obtain ⟨d1, d2, d4, h3⟩ : ∃ a b c, d3 (N % 1000) = [a, b, c] := ⟨_, _, _, rfl⟩
    have H3 := Aside0.mk h3
    obtain ⟨tt, htt⟩ : ∃ tt, trimR [d1, d2, d4] = tt := ⟨_, rfl⟩
    have htl : tt.length ≤ 3 := by rw [← htt]; exact trimR_length _
    have HTT := Aside0.mk htt
    have HT := Aside0.mk (show timeT false N = [] ++ A ++ 46 :: tt by rw [hA, ← htt, ← h3]; unfold timeT; rw [if_neg hr]; rfl)
    clear h3 htt
    clear hA
    go_enter Tryz.func42, Tryz.ntmps42
    go_wp2_with fail
    refine (HF.out _ (by omega) _ HG.out).mono ?_
    rintro e w1 ⟨rfl, hb1⟩
    have HB1 := Aside0.mk hb1
    clear hb1
    go_wp2_with fail
    refine (format_thou _ (N % 1000) (by omega) (Nat.mod_lt _ (by decide)) d1 d2 d4 H3.out _ (HG.out.next HB1.out)).mono ?_
    rintro e w2 ⟨rfl, hb2⟩
    have HB2 := Aside0.mk (below_step HB1.out hb2)
    clear hb2
    go_wp2_with fail
    refine (trim_at d1 d2 d4 tt HTT.out _).mono ?_
    rintro e w3 ⟨rfl, rfl⟩
    go_wp2_with fail
    go_ret
    refine ⟨?_, HB2.out⟩
    rw [HT.out]
    show Ending.returned (.string ((⟨[].toArray⟩ : ByteArray) ++ ⟨A.toArray⟩ ++ ((⟨[46].toArray⟩ : ByteArray) ++ ⟨tt.toArray⟩))) = _
    rw [bapp, bapp, bapp]
    rfl

theorem rtimeText_calls (n : Int) (h : n.natAbs < 10 ^ 15) (w : World) (hG : Glob w) :
    Calls Tryz.prog 42 #[.int .i64 n] w fun e w' => e = .returned (.string (timeTx n)) ∧ Below w.heap.size w w' := by
  by_cases hneg : n < 0
  · have h1 : n = -(n.natAbs : Int) := by omega
    have h2 : timeTx n = ⟨(timeT true n.natAbs).toArray⟩ := by unfold timeTx Ftext; rw [if_neg (by omega), decide_eq_true hneg]
    rw [h2]
    have := rtimeText_neg n.natAbs h (by omega) w hG
    rwa [← h1] at this
  · have h1 : n = (n.natAbs : Int) := by omega
    have h2 : timeTx n = ⟨(timeT false n.natAbs).toArray⟩ := by
      unfold timeTx Ftext
      rw [decide_eq_false hneg]
      by_cases h0 : n.natAbs = 0
      · rw [if_pos h0, h0]; unfold timeT; rw [if_pos rfl, show Lib.decDigits (0 / 1000) = [48] by rw [Lib.decDigits, dif_pos (by decide)]; rfl]; rfl
      · rw [if_neg h0]
    rw [h2]
    have := rtimeText_pos n.natAbs h w hG
    rwa [← h1] at this
end Go.Proofs.YtobbfenkdnaanaaGreatDoor
