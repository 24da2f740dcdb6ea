/- TimeRead, walked. -/
import Derived.Test.YtobbfenkdnaanaaGreatDoorTimK
import Derived.Test.YtobbfenkdnaanaaGreatDoorDurF
set_option linter.unusedVariables false
set_option linter.unusedSimpArgs false
namespace Go.Proofs.YtobbfenkdnaanaaGreatDoor
open Go.RowKit

theorem timeTx_eq (n : Int) : timeTx n = ⟨(timeT (decide (n < 0)) n.natAbs).toArray⟩ := by
  unfold timeTx Ftext
  by_cases h0 : n.natAbs = 0
  · obtain rfl : n = 0 := by omega
    rw [if_pos (show (0 : Int).natAbs = 0 from rfl)]
    unfold timeT
    rw [if_pos (show (0 : Int).natAbs % 1000 = 0 from rfl), show Lib.decDigits ((0 : Int).natAbs / 1000) = [48] by rw [Lib.decDigits, dif_pos (by decide)]; rfl]
    rfl
  · rw [if_neg h0]

theorem ext_front (a b : List UInt8) (n : Nat) (hn : n = a.length) : (⟨(a ++ b).toArray⟩ : ByteArray).extract 0 n = ⟨a.toArray⟩ := by
  subst hn
  apply ByteArray.ext
  simp [ByteArray.data_extract]

theorem ext_back (a b : List UInt8) (c : UInt8) (n m : Nat) (hn : n = a.length + 1) (hm : m = (a ++ c :: b).length) : (⟨(a ++ c :: b).toArray⟩ : ByteArray).extract n m = ⟨b.toArray⟩ := by
  subst hn; subst hm
  apply ByteArray.ext
  simp [ByteArray.data_extract]
  exact List.take_of_length_le (by omega)

theorem d3_val (r : Nat) : (d3 r).length = 3 := rfl

/-- A time's text is read back: a time that is not negative as itself. -/
theorem unm_text (q : Nat) (v : Value) (n : Int) (h : n.natAbs < 10 ^ 15) (w : World) (hcv : (convert 62 9 v).run Tryz.prog w = .ok (.string (timeTx n)) w) (hq : q < w.heap.size) (c0 : w.cell? ⟨q, 0, none⟩ = some (.int .i64 0)) (f0 : w.frozen? ⟨q, 0, none⟩ = false) :
    Calls Tryz.prog 107 #[.pointer (some ⟨q, 0, none⟩), v] w fun e w' => e = .returned .nilIface ∧ (∃ x : Int, w'.cell? ⟨q, 0, none⟩ = some (.int .i64 x) ∧ (0 ≤ n → x = n)) ∧ Below q w w' := by
  obtain ⟨neg, hneg⟩ : ∃ neg, neg = decide (n < 0) := ⟨_, rfl⟩
  obtain ⟨N, hN⟩ : ∃ N, N = n.natAbs := ⟨_, rfl⟩
  rw [timeTx_eq, ← hneg, ← hN] at hcv
  rw [← hN] at h
  have hdl : (Lib.decDigits (N / 1000)).length ≤ 15 := by rw [Lib.decDigits_length]; exact nDigits_le 14 _ (by omega)
  have hpl : (preT neg N).length ≤ 16 := by
    unfold preT; rw [List.length_append]; cases neg
    · show 0 + _ ≤ _; omega
    · show 1 + _ ≤ _; omega
  have hpl1 : 1 ≤ (preT neg N).length := by
    unfold preT; rw [List.length_append]
    have := Lib.nDigits_pos (N / 1000)
    rw [Lib.decDigits_length]; omega
  have hpp := preT_parse neg N h
  obtain ⟨z, hz⟩ : ∃ z : Int, z = if neg then -((N / 1000 : Nat) : Int) else ((N / 1000 : Nat) : Int) := ⟨_, rfl⟩
  rw [← hz] at hpp
  have hzb : -1000000000000 ≤ z ∧ z ≤ 1000000000000 := by
    have : N / 1000 < 10 ^ 12 := by omega
    rw [hz]; cases neg
    · simp; omega
    · simp; omega
  have hn0 : 0 ≤ n → neg = false ∧ n = (N : Int) := fun h0 => ⟨by rw [hneg]; exact decide_eq_false (by omega), by omega⟩
  by_cases hr : N % 1000 = 0
  · have ht : timeT neg N = preT neg N := by unfold timeT preT; rw [if_pos hr]; simp
    rw [ht] at hcv
    refine (unm_one q v _ z ?_ (dot_none (preT_dot neg N)) hpp hzb.1 hzb.2 w hcv hq c0 f0).mono ?_
    · show (preT neg N).toArray.size ≤ 100; simp; omega
    · rintro e w' ⟨he, hc, hb⟩
      refine ⟨he, ⟨_, hc, fun h0 => ?_⟩, hb⟩
      obtain ⟨e1, e2⟩ := hn0 h0
      rw [hz, e1, e2]
      simp; omega
  · obtain ⟨g1, g2, g3, g4, g5⟩ := frac_at (Nat.mod_lt N (by decide)) hr
    obtain ⟨F, hF⟩ : ∃ F, F = trimR (d3 (N % 1000)) := ⟨_, rfl⟩
    rw [← hF] at g1 g2 g3 g4
    have ht : timeT neg N = preT neg N ++ 46 :: F := by unfold timeT preT; rw [if_neg hr, ← hF]
    rw [ht] at hcv
    have hsz : (⟨(preT neg N ++ 46 :: F).toArray⟩ : ByteArray).size = (preT neg N ++ 46 :: F).length := by show (preT neg N ++ 46 :: F).toArray.size = _; simp
    refine (unm_two q v _ (preT neg N).length ⟨(preT neg N).toArray⟩ ⟨F.toArray⟩ ⟨(d3 (N % 1000)).toArray⟩ z ((N % 1000 : Nat) : Int) F.length ?_ ?_ (dot_here (preT_dot neg N)) (ext_front _ _ _ rfl) (ext_back _ _ _ _ _ rfl hsz)
      (dot_none (dig_ne g1 46 (by decide))) hpp hzb.1 hzb.2 ?_ ?_ ?_ g2 g3 ?_ g5 (by omega) (by have := Nat.mod_lt N (show 0 < 1000 by decide); omega) w hcv hq c0 f0).mono ?_
    · rw [hsz, List.length_append, List.length_cons]; omega
    · rw [hsz, List.length_append, List.length_cons]; omega
    · show 1 ≤ (preT neg N).toArray.size; simpa using hpl1
    · show (preT neg N).toArray.size ≤ 100; simp; omega
    · show F.toArray.size = _; simp
    · rw [bapp, g4]
    · rintro e w' ⟨he, ⟨x, hc, hx⟩, hb⟩
      refine ⟨he, ⟨x, hc, fun h0 => ?_⟩, hb⟩
      obtain ⟨e1, e2⟩ := hn0 h0
      rw [hx, hz, e1, e2]
      · simp; omega
      · rw [e1]
        intro hh
        have hv := (decDigits_val (N / 1000)).1
        have : (preT false N).head? = some 45 := hh
        unfold preT at this
        have h2 : (Lib.decDigits (N / 1000)).head? = some 45 := this
        exact dig_ne hv 45 (by decide) 45 (List.mem_of_head? h2) rfl


theorem conv_both (s : ByteArray) (w : World) : ∃ v w', (convert 9 62 (.string s)).run Tryz.prog w = .ok v w' ∧ (convert 62 9 v).run Tryz.prog w' = .ok (.string s) w' ∧ Below w.heap.size w w' := by
  refine ⟨_, _, Lib.run_convert_string_bytes (P := Tryz.prog) w 9 62 5 s Tryz.underlying9 Tryz.underlying62 Tryz.underlying5, ?_, Lib.bytesWorld_below _ _ _⟩
  have := run_convert_bytes_back (P := Tryz.prog) (Lib.bytesWorld w 5 s) 62 9 5 ⟨w.heap.size, 0, none⟩ (grownCap w s.size 0 5) s.data.toList Tryz.underlying62 Tryz.underlying5 Tryz.underlying9 (fun j hj => by
    rw [Lib.add_plain, Nat.zero_add]
    have h2 : j < s.size := by rw [← Lib.size_eq] at hj; exact hj
    rw [Lib.bytesWorld_cell w 5 s j h2, List.getD_eq_getElem?_getD, List.getElem?_eq_getElem hj]
    rfl)
  rw [← Lib.size_eq] at this
  exact this

set_option maxHeartbeats 1000000 in
set_option maxRecDepth 100000 in
theorem read106_calls (n : Int) (h : n.natAbs < 10 ^ 15) (w : World) :
    Calls Tryz.prog 106 #[.pointer (some ⟨w.heap.size, 0, none⟩), .pointer (some ⟨w.heap.size + 1, 0, none⟩), .pointer (some ⟨w.heap.size + 2, 0, none⟩)] ((((w.alloc (.cells #[.string (timeTx n)] 9)).alloc (.cells #[.int .i64 0] 2)).alloc (.cells #[.bool false] 4)).alloc (.cells #[.bool false] 4)) fun e w' =>
      e = .returned (.tuple #[]) ∧ ∃ x : Int, (0 ≤ n → x = n) ∧ ReadQ w x true w' := by
  obtain ⟨s, hs⟩ : ∃ s, s = timeTx n := ⟨_, rfl⟩
  have HU := Aside0.mk (fun q v w => unm_text q v n h w)
  rw [← hs] at HU ⊢
  clear hs
  obtain ⟨v, W1, hc1, hcv, hb1⟩ := conv_both s ((((((w.alloc (.cells #[.string s] 9)).alloc (.cells #[.int .i64 0] 2)).alloc (.cells #[.bool false] 4)).alloc (.cells #[.bool false] 4))).alloc (.cells #[.int .i64 0] 138))
  have HCV := Aside0.mk hcv
  have e0 := hb1.cell (p := ⟨w.heap.size + 4, 0, none⟩) (by simp)
  have e00 := hb1.frozen (p := ⟨w.heap.size + 4, 0, none⟩) (by simp)
  have e1 := hb1.cell (p := ⟨w.heap.size + 1, 0, none⟩) (by simp)
  have e2 := hb1.frozen (p := ⟨w.heap.size + 1, 0, none⟩) (by simp)
  have e3 := hb1.cell (p := ⟨w.heap.size + 2, 0, none⟩) (by simp)
  have e4 := hb1.frozen (p := ⟨w.heap.size + 2, 0, none⟩) (by simp)
  have e5 := hb1.cell (p := ⟨w.heap.size + 3, 0, none⟩) (by simp)
  have e6 := hb1.frozen (p := ⟨w.heap.size + 3, 0, none⟩) (by simp)
  have e7 := hb1.size
  simp [go_sem] at e0 e00 e1 e2 e3 e4 e5 e6 e7
  have HB1 := Aside0.mk (below_step (below_alloc (below_alloc (below_alloc (below_alloc (below_alloc (Below.refl w.heap.size w) (.cells #[.string s] 9)) (.cells #[.int .i64 0] 2)) (.cells #[.bool false] 4)) (.cells #[.bool false] 4)) (.cells #[.int .i64 0] 138)) hb1)
  clear hcv hb1
  go_enter Tryz.func106, Tryz.ntmps106
  go_wp2_with fail
  refine (HU.out (w.heap.size + 4) v W1 HCV.out (by omega) e0 e00).mono ?_
  rintro e w1 ⟨rfl, ⟨x, cx, hx⟩, hb⟩
  have f1 := (hb.cell (p := ⟨w.heap.size + 1, 0, none⟩) (by simp)).trans e1
  have f2 := (hb.frozen (p := ⟨w.heap.size + 1, 0, none⟩) (by simp)).trans e2
  have f3 := (hb.cell (p := ⟨w.heap.size + 2, 0, none⟩) (by simp)).trans e3
  have f4 := (hb.frozen (p := ⟨w.heap.size + 2, 0, none⟩) (by simp)).trans e4
  have f5 := (hb.cell (p := ⟨w.heap.size + 3, 0, none⟩) (by simp)).trans e5
  have f6 := (hb.frozen (p := ⟨w.heap.size + 3, 0, none⟩) (by simp)).trans e6
  have f7 := Nat.le_trans e7 hb.size
  have HX := Aside0.mk hx
  have HB := Aside0.mk (HB1.out.trans (hb.mono (by omega)))
  clear hb hx e0 e00 e1 e2 e3 e4 e5 e6 e7 hc1
  go_wp2_with fail
  go_region
  all_goals
    go_end0
    refine ⟨rfl, x, HX.out, ((HB.out.drew.setCell (p := ⟨w.heap.size + 1, 0, none⟩) (by simp) _).setCell (p := ⟨w.heap.size + 2, 0, none⟩) (by simp) _), by simp [World.setCell]; omega, ?_, ?_, ?_, ?_, ?_, ?_⟩
    · simp [go_sem, f1]
    · simp [go_sem, f2]
    · simp [go_sem, f3]
    · simp [go_sem, f4]
    · simp [go_sem, f5]
    · simp [go_sem, f6]

set_option maxHeartbeats 1000000 in
set_option maxRecDepth 100000 in
theorem timeRead_calls (n : Int) (h : n.natAbs < 10 ^ 15) (w : World) :
    Calls Tryz.prog 41 #[.string (timeTx n)] w fun e w' => ∃ x : Int, (0 ≤ n → x = n) ∧ e = .returned (.tuple #[.int .i64 x, .bool true]) ∧ Below w.heap.size w w' := by
  have HC := Aside0.mk (read106_calls n h w)
  obtain ⟨s, hs⟩ : ∃ s, s = timeTx n := ⟨_, rfl⟩
  rw [← hs] at HC ⊢
  clear hs h
  go_enter Tryz.func41, Tryz.ntmps41
  go_wp2_with fail
  refine (safe_calls 106 _ _ (fun w' => ∃ x : Int, (0 ≤ n → x = n) ∧ ReadQ w x true w') (fun _ => by simp [go_sem]) HC.out ?_).mono ?_
  · rintro w' ⟨x, _, _, _, _, _, _, _, hc, hf⟩
    simpa using ⟨hc, hf⟩
  rintro e w2 ⟨rfl, w1, ⟨x, hx, hb, hs1, hc, hf, hc2, hf2, _, _⟩, hb2⟩
  have f1 := (hb2.cell (p := ⟨w.heap.size + 1, 0, none⟩) (by simp)).trans hc
  have f2 := (hb2.frozen (p := ⟨w.heap.size + 1, 0, none⟩) (by simp)).trans hf
  have f3 := (hb2.cell (p := ⟨w.heap.size + 2, 0, none⟩) (by simp)).trans hc2
  have f4 := (hb2.frozen (p := ⟨w.heap.size + 2, 0, none⟩) (by simp)).trans hf2
  have HF := Aside0.mk (hb.trans (hb2.mono (by simp; omega)))
  have HX := Aside0.mk hx
  clear hb hs1 hc hf hb2 hc2 hf2 hx
  go_wp2_with fail
  refine bodyPost_ret (v := .tuple #[.int .i64 x, .bool true]) (by simp [results, Tryz.results41, go_sem, f1, f2, f3, f4]) rfl ⟨x, HX.out, rfl, ?_⟩
  exact (HF.out.setCell (p := ⟨w.heap.size + 1, 0, none⟩) (by simp) _).setCell (p := ⟨w.heap.size + 2, 0, none⟩) (by simp) _

set_option maxHeartbeats 1000000 in
set_option maxRecDepth 100000 in
/-- **The law FnTime.** -/
theorem timeLaw_calls (n : Int) (h0 : -9223372036854775808 ≤ n) (h1 : n ≤ 9223372036854775807) (w : World) (hG : Glob w) (hT : PowT w) :
    Calls Tryz.prog 9 #[.int .i64 n] w fun e w' => e = .returned (.bool true) ∧ Below w.heap.size w w' := by
  have HG := Aside0.mk hG
  have HT := Aside0.mk hT
  clear hG hT
  by_cases hlo : n ≤ -1000000000000000
  · have c0 : decide (n ≤ -1000000000000000) = true := decide_eq_true hlo
    go_enter Tryz.func9, Tryz.ntmps9
    go_wp2_with fail
    refine (awake_calls _ HG.out).mono ?_
    rintro e w1 ⟨rfl, hb⟩
    go_wp2_with fail
    go_ret
    exact ⟨rfl, hb⟩
  · have c0 : decide (n ≤ -1000000000000000) = false := decide_eq_false hlo
    by_cases hhi : 1000000000000000 ≤ n
    · have c1 : decide (n ≥ 1000000000000000) = true := decide_eq_true hhi
      go_enter Tryz.func9, Tryz.ntmps9
      go_wp2_with fail
      refine (awake_calls _ HG.out).mono ?_
      rintro e w1 ⟨rfl, hb⟩
      go_wp2_with fail
      go_ret
      exact ⟨rfl, hb⟩
    · have c1 : decide (n ≥ 1000000000000000) = false := decide_eq_false hhi
      have hn : n.natAbs < 10 ^ 15 := by omega
      have HN := Aside0.mk hn
      obtain ⟨s, hs⟩ : ∃ s, s = timeTx n := ⟨_, rfl⟩
      have HR := Aside0.mk (fun w => timeRead_calls n hn w)
      have HTT := Aside0.mk (fun w hT hG => timeText_calls n hn w hT hG)
      have HRT := Aside0.mk (fun w hG => rtimeText_calls n hn w hG)
      rw [← hs] at HR HTT HRT
      clear hs hn
      go_enter Tryz.func9, Tryz.ntmps9
      go_wp2_with fail
      refine (HTT.out _ HT.out HG.out).mono ?_
      rintro e w1 ⟨rfl, hb1⟩
      have HB1 := Aside0.mk hb1
      clear hb1
      go_wp2_with fail
      refine (HR.out _).mono ?_
      rintro e w2 ⟨x, hx, rfl, hb2⟩
      have HB2 := Aside0.mk (below_step HB1.out hb2)
      have HX := Aside0.mk hx
      clear hb2 hx
      go_wp2_with fail
      refine (awake_calls _ (HG.out.next HB2.out)).mono ?_
      rintro e w3 ⟨rfl, hb3⟩
      have HB3 := Aside0.mk (below_step HB2.out hb3)
      clear hb3
      go_wp2_with fail
      refine (HRT.out _ (HG.out.next HB3.out)).mono ?_
      rintro e w4 ⟨rfl, hb4⟩
      have HB4 := Aside0.mk (below_step HB3.out hb4)
      clear hb4
      by_cases hneg : n < 0
      · have c2 : decide (n < 0) = true := decide_eq_true hneg
        go_wp2_with fail
        go_ret
        exact ⟨rfl, HB4.out⟩
      · have c2 : decide (n < 0) = false := decide_eq_false hneg
        have hxn := HX.out (by omega)
        subst hxn
        go_wp2_with fail
        go_ret
        exact ⟨rfl, HB4.out⟩
end Go.Proofs.YtobbfenkdnaanaaGreatDoor
