/- Durations: String by its contract; impl.DurationText, impl.DurationRead by theirs. -/
import Derived.Test.YtobbfenkdnaanaaGreatDoorDurD
set_option linter.unusedVariables false
set_option linter.unusedSimpArgs false
namespace Go.Proofs.YtobbfenkdnaanaaGreatDoor
open Go.RowKit

/-- String's two variables in a round: at most L letters so far. -/
structure StrAt (w0 : World) (B L : Nat) (z : Int × List UInt8) (w : World) : Prop where
  held : Held w ⟨B, 0, none⟩ ⟨B + 1, 0, none⟩ z.1 z.2
  glob : Glob w
  below : Below B w0 w
  lo : 0 ≤ z.1
  hi : z.1 ≤ 9223372036854775807
  len : z.2.length ≤ L

theorem str_step (u : List UInt8) (m : Int) (ex : Bool) (w0 w : World) (B L : Nat) (z : Int × List UInt8) (h : StrAt w0 B L z w) (hm : 0 < m) (hm1 : m ≤ 31536000000) (hu : u.length ≤ 2) (hL : L ≤ 10000) (hB : 15 ≤ B) :
    Calls Tryz.prog 178 #[.string ⟨u.toArray⟩, .int .i64 m, .bool ex, .pointer (some ⟨B, 0, none⟩), .pointer (some ⟨B + 1, 0, none⟩)] w fun e w' =>
      e = .returned (.tuple #[]) ∧ StrAt w0 B (L + 23) (durStep u m ex z) w' := by
  by_cases hs : (ex = true ∧ z.1 % m ≠ 0) ∨ z.1 / m ≤ 0
  · refine (str1_skip ⟨u.toArray⟩ m ex z.1 _ _ w hm hm1 h.lo h.hi h.held.m hs).mono ?_
    rintro e w' ⟨rfl, rfl⟩
    refine ⟨rfl, ?_⟩
    rw [durStep, if_pos hs]
    exact ⟨h.held, h.glob, h.below, h.lo, h.hi, by have := h.len; omega⟩
  · have h1 : ¬ (ex = true ∧ z.1 % m ≠ 0) := fun h => hs (.inl h)
    have h2 : 0 < z.1 / m := by
      rcases Int.lt_or_le 0 (z.1 / m) with h | h
      · exact h
      · exact absurd (.inr h) hs
    refine (str1_put u m ex z.1 z.2 w B hm hm1 h.lo h.hi h.glob h.held h1 h2 (by omega) (by have := h.len; omega)).mono ?_
    rintro e w' ⟨rfl, hh, hb⟩
    have p1 : 0 ≤ z.1 / m * m := Int.mul_nonneg (by omega) (by omega)
    have p2 : z.1 / m * m ≤ z.1 := Int.ediv_mul_le z.1 (by omega)
    have p3 : z.1 / m ≤ z.1 := Int.ediv_le_self m h.lo
    have hl := Lib.itoa_length_le (z.1 / m) (by omega) (by have := h.hi; omega)
    refine ⟨rfl, ?_⟩
    rw [durStep, if_neg hs]
    have := h.lo; have := h.hi; have := h.len
    exact ⟨hh, h.glob.below hB hb, h.below.trans hb, by show 0 ≤ z.1 - z.1 / m * m; omega, by show z.1 - z.1 / m * m ≤ _; omega, by simp; omega⟩

/-- The text of a duration of milliseconds that is not below 0. -/
def durText (ms : Int) : List UInt8 :=
  if ms = 0 then [48, 115] else
  (durStep [109, 115] 1 false (durStep [115] 1000 false (durStep [109] 60000 false (durStep [104] 3600000 false (durStep [100] 86400000 false
    (durStep [119] 604800000 true (durStep [121] 31536000000 true (ms, [])))))))).2

theorem strAt_start (w : World) (hg : Glob w) (x : Int) (h0 : 0 ≤ x) (h1 : x ≤ 9223372036854775807) :
    StrAt w w.heap.size 0 (x, []) ((w.alloc (.cells #[.int .i64 x] 2)).alloc (.cells #[.string ⟨#[]⟩] 9)) where
  held := ⟨by simp [go_sem], by simp [go_sem], by simp [go_sem], by simp [go_sem]⟩
  glob := (hg.alloc _).alloc _
  below := below_alloc (below_alloc (Below.refl _ _) _) _
  lo := h0
  hi := h1
  len := by simp
set_option maxHeartbeats 2000000 in
set_option maxRecDepth 100000 in
theorem string_calls (n : Int) (h0 : 0 ≤ n) (h1 : n ≤ 9223372036854775807) (w : World) (hg : Glob w) :
    Calls Tryz.prog 113 #[.int .i64 n] w fun e w' => e = .returned (.string ⟨(durText (n / 1000000)).toArray⟩) ∧ Below w.heap.size w w' := by
  have HG := Aside0.mk hg; clear hg
  have hd0 : 0 ≤ n / 1000000 := by omega
  have hd1 : n / 1000000 ≤ 9223372036854 := by omega
  by_cases hz : n / 1000000 = 0
  · have HT := Aside0.mk (show durText (n / 1000000) = [48, 115] by rw [durText, if_pos hz])
    have c0 : (n / 1000000 == 0) = true := beq_iff_eq.2 hz
    clear hz
    go_enter Tryz.func113, Tryz.ntmps113
    go_wp2
    go_ret
    exact ⟨by rw [HT.out]; rfl, below_alloc (below_alloc (Below.refl _ _) _) _⟩
  · have HT := Aside0.mk (show durText (n / 1000000) = _ by rw [durText, if_neg hz])
    have c0 : (n / 1000000 == 0) = false := beq_eq_false_iff_ne.2 hz
    clear hz
    go_enter Tryz.func113, Tryz.ntmps113
    go_wp2_with fail
    have HS := Aside0.mk (strAt_start w HG.out (n / 1000000) hd0 (by omega))
    have hz7 := HG.out.size
    refine (str_step [121] 31536000000 true w _ w.heap.size _ _ HS.out (by decide) (by decide) (by decide) (by decide) hz7).mono ?_
    rintro e w1 ⟨rfl, hs⟩
    have HS1 := Aside0.mk hs
    clear hs HS
    have HS := HS1; clear HS1
    go_wp2_with fail
    refine (str_step [119] 604800000 true w _ w.heap.size _ _ HS.out (by decide) (by decide) (by decide) (by decide) hz7).mono ?_
    rintro e w2 ⟨rfl, hs⟩
    have HS2 := Aside0.mk hs
    clear hs HS
    have HS := HS2; clear HS2
    go_wp2_with fail
    refine (str_step [100] 86400000 false w _ w.heap.size _ _ HS.out (by decide) (by decide) (by decide) (by decide) hz7).mono ?_
    rintro e w3 ⟨rfl, hs⟩
    have HS3 := Aside0.mk hs
    clear hs HS
    have HS := HS3; clear HS3
    go_wp2_with fail
    refine (str_step [104] 3600000 false w _ w.heap.size _ _ HS.out (by decide) (by decide) (by decide) (by decide) hz7).mono ?_
    rintro e w4 ⟨rfl, hs⟩
    have HS4 := Aside0.mk hs
    clear hs HS
    have HS := HS4; clear HS4
    go_wp2_with fail
    refine (str_step [109] 60000 false w _ w.heap.size _ _ HS.out (by decide) (by decide) (by decide) (by decide) hz7).mono ?_
    rintro e w5 ⟨rfl, hs⟩
    have HS5 := Aside0.mk hs
    clear hs HS
    have HS := HS5; clear HS5
    go_wp2_with fail
    refine (str_step [115] 1000 false w _ w.heap.size _ _ HS.out (by decide) (by decide) (by decide) (by decide) hz7).mono ?_
    rintro e w6 ⟨rfl, hs⟩
    have HS6 := Aside0.mk hs
    clear hs HS
    have HS := HS6; clear HS6
    go_wp2_with fail
    refine (str_step [109, 115] 1 false w _ w.heap.size _ _ HS.out (by decide) (by decide) (by decide) (by decide) hz7).mono ?_
    rintro e w7 ⟨rfl, hs⟩
    have HS7 := Aside0.mk hs
    clear hs HS
    have HS := HS7; clear HS7
    have f1 := HS.out.held.r
    have f2 := HS.out.len
    have hb := HS.out.below
    rw [← HT.out] at f1 f2
    clear HS HT
    go_wp2
    go_ret
    exact ⟨by simp [ByteArray.mk_append_mk], hb⟩
end Go.Proofs.YtobbfenkdnaanaaGreatDoor
