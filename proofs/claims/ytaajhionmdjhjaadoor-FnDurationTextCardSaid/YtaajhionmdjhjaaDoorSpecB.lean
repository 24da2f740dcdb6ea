/- Durations: the reference's text of a duration, walked. -/
import Derived.Test.YtaajhionmdjhjaaDoorSpecA
import Derived.Deep.RegionHeld3
import Derived.Deep.LoopGhost
set_option linter.unusedVariables false
set_option linter.unusedSimpArgs false
namespace Go.Proofs.YtaajhionmdjhjaaDoor
open Go.RowKit

/-- What holds at the head of the reference's loop over the units. -/
structure TellAt (w0 W : World) (ms : Int) (i : Nat) (x : Int) (t : List UInt8) (w : World) : Prop where
  at_ : told ms i = (x, t)
  glob : Glob w
  below : Below w0.heap.size w0 w
  same : Below (w0.heap.size + 2) W w
  lo : 0 ≤ x
  hi : x ≤ 9223372036854775807
  len : t.length ≤ 23 * i

/-- The world behind spec.units. -/
def unitsW (w : World) : World := (w.alloc (.cells #[.string ⟨#[121]⟩, .string ⟨#[119]⟩, .string ⟨#[100]⟩, .string ⟨#[104]⟩, .string ⟨#[109]⟩, .string ⟨#[115]⟩, .string ⟨#[109, 115]⟩] 9)).alloc (.cells #[.int .i64 31536000000, .int .i64 604800000, .int .i64 86400000, .int .i64 3600000, .int .i64 60000, .int .i64 1000, .int .i64 1] 2)
set_option maxHeartbeats 4000000 in
set_option maxRecDepth 100000 in
theorem specText_calls (ms : Int) (h0 : 0 ≤ ms) (h1 : ms ≤ 9223372036854775807) (w : World) (hg : Glob w) :
    Calls Tryd.prog 16 #[.int .i64 ms] w fun e w' => e = .returned (.string ⟨(durText ms).toArray⟩) ∧ Below w.heap.size w w' := by
  have HG := Aside0.mk hg; clear hg
  by_cases hz : ms = 0
  · have c0 : (ms == 0) = true := beq_iff_eq.2 hz
    have HT := Aside0.mk (show durText ms = [48, 115] by rw [durText, if_pos hz])
    clear hz
    go_enter Tryd.func16, Tryd.ntmps16
    go_wp2
    go_ret
    exact ⟨by rw [HT.out]; rfl, Below.refl _ _⟩
  have c0 : (ms == 0) = false := beq_eq_false_iff_ne.2 hz
  have HT := Aside0.mk (told_text ms hz)
  clear hz
  go_enter Tryd.func16, Tryd.ntmps16
  go_wp2
  clear c0
  have HW := Aside0.mk (below_alloc (below_alloc (Below.refl w.heap.size w) (.cells #[.string ⟨#[121]⟩, .string ⟨#[119]⟩, .string ⟨#[100]⟩, .string ⟨#[104]⟩, .string ⟨#[109]⟩, .string ⟨#[115]⟩, .string ⟨#[109, 115]⟩] 9)) (.cells #[.int .i64 31536000000, .int .i64 604800000, .int .i64 86400000, .int .i64 3600000, .int .i64 60000, .int .i64 1000, .int .i64 1] 2))
  go_loopg [0, 5, 6] 8 (fun kq v0 v5 v6 w' => ∃ (i : Nat) (x : Int) (t : List UInt8), v0 = .int .i64 x ∧ v5 = .string ⟨t.toArray⟩ ∧ v6 = .int .i64 (i : Int) ∧ i + kq = 8 ∧ i ≤ 7 ∧ Aside0 (TellAt w (unitsW w) ms i x t w'))
  case atStart => exact ⟨0, ms, [], rfl, rfl, rfl, rfl, by omega, ⟨⟨by simp only [told], (HG.out.alloc _).alloc _, HW.out, Below.refl _ _, h0, h1, by simp⟩⟩⟩
  case round =>
    obtain ⟨i, x, t, rfl, rfl, rfl, hik, hi7, HA⟩ := hrel
    have hx0 := HA.out.lo
    have hx1 := HA.out.hi
    have hlen := HA.out.len
    rcases (show i = 7 ∨ i = 0 ∨ i = 1 ∨ i = 2 ∨ i = 3 ∨ i = 4 ∨ i = 5 ∨ i = 6 by omega) with rfl | rfl | rfl | rfl | rfl | rfl | rfl | rfl
    · have hfin : durText ms = t := by rw [HT.out, HA.out.at_]
      have HF := Aside0.mk hfin
      clear hfin
      go_wp2
      go_ret
      exact ⟨by rw [HF.out]; rfl, HA.out.below⟩
    · obtain rfl : gk = 8 := by omega
      have e1 := HA.out.same.cell (p := ⟨w.heap.size + 1, 0, none⟩) (by simp)
      have e2 := HA.out.same.cell (p := ⟨w.heap.size, 0, none⟩) (by simp)
      have fm : wr.cell? ⟨w.heap.size + 1, 0, none⟩ = some (.int .i64 31536000000) := by rw [e1]; simp [unitsW, go_sem]
      have fn : wr.cell? ⟨w.heap.size, 0, none⟩ = some (.string ⟨#[121]⟩) := by rw [e2]; simp [unitsW, go_sem]
      clear e1 e2
      have HN := Aside0.mk (show told ms 1 = durStep [121] 31536000000 true (x, t) by rw [show told ms 1 = durStep [121] 31536000000 true (told ms 0) by simp only [told], HA.out.at_])
      have HL := Aside0.mk (durStep_lo [121] 31536000000 true (x, t) (by decide) hx0 hx1 (by decide))
      by_cases hm : x % 31536000000 = 0
      · by_cases hge : 31536000000 ≤ x
        · have HS := Aside0.mk (durStep_put (u := [121]) (m := 31536000000) (ex := true) (x := x) (t := t) (by simp [hm]) hge (by decide))
          have q1 : 0 ≤ x / 31536000000 := by omega
          have q2 : x / 31536000000 ≤ 9223372036854775807 := by omega
          have qd : IntKind.i64.wrap (x.tdiv 31536000000) = x / 31536000000 := by rw [Int.tdiv_eq_ediv_of_nonneg hx0, IntWalk.i64_in _ ⟨by omega, by omega⟩]
          have hl := Lib.itoa_length_le (x / 31536000000) (by omega) (by omega)
          have s1 : ∀ W : World, (Op.stringOp .add ⟨(Lib.itoa (x / 31536000000)).toArray⟩ ⟨#[121]⟩).run Tryd.prog W = .ok (.string ⟨(Lib.itoa (x / 31536000000) ++ [121]).toArray⟩) W := fun W => run_string_add_lists W _ [121] (by omega) (by decide)
          have s2 : ∀ W : World, (Op.stringOp .add ⟨t.toArray⟩ ⟨(Lib.itoa (x / 31536000000) ++ [121]).toArray⟩).run Tryd.prog W = .ok (.string ⟨(t ++ (Lib.itoa (x / 31536000000) ++ [121])).toArray⟩) W := fun W => run_string_add_lists W _ _ (by omega) (by simp; omega)
          have c1 : (x % 31536000000 != 0) = false := by rw [hm]; rfl
          clear hm
          go_wp2
          go_region_held3 (fun w' => w'.cell? ⟨w.heap.size + 1, 0, none⟩ = some (.int .i64 31536000000) ∧ w'.cell? ⟨w.heap.size, 0, none⟩ = some (.string ⟨#[121]⟩)) (first | exact ⟨fm, fn⟩ | exact ⟨fm2, fn2⟩) (first | (go_at_call 37; refine (format_calls _ (by omega) (by omega) _ ?_).mono ?_; (exact HA.out.glob.next (below_drew (Below.refl _ _))); rintro e w2 ⟨rfl, hb⟩; have HK := Aside0.mk (below_step (below_drew (Below.refl wr.heap.size wr)) hb); clear hb; have fm2 := cell_below HK.out fm; have fn2 := cell_below HK.out fn))
          go_wp2
          go_roundg 7
          case measure => omega
          case rel => exact ⟨1, x % 31536000000, t ++ (Lib.itoa (x / 31536000000) ++ [121]), rfl, rfl, rfl, rfl, by omega, ⟨⟨by rw [HN.out, HS.out], HA.out.glob.next HK.out, below_step HA.out.below HK.out, HA.out.same.trans (HK.out.mono (by have := HA.out.same.size; simp [unitsW] at this; omega)), by omega, by omega, by simp; omega⟩⟩⟩
        · have HS := Aside0.mk (durStep_skip (u := [121]) (m := 31536000000) (ex := true) (x := x) (t := t) (.inr (by omega)) hx0)
          have c1 : (x % 31536000000 != 0) = false := by rw [hm]; rfl
          have hlt : x < 31536000000 := by omega
          clear hm hge
          go_wp2
          go_roundg 7
          case measure => omega
          case rel => exact ⟨1, x, t, rfl, rfl, rfl, rfl, by omega, ⟨⟨by rw [HN.out, HS.out], HA.out.glob, HA.out.below, HA.out.same, hx0, hx1, by omega⟩⟩⟩
      · have HS := Aside0.mk (durStep_skip (u := [121]) (m := 31536000000) (ex := true) (x := x) (t := t) (.inl ⟨rfl, hm⟩) hx0)
        have c1 : (x % 31536000000 != 0) = true := bne_iff_ne.2 hm
        clear hm
        go_wp2
        go_roundg 7
        case measure => omega
        case rel => exact ⟨1, x, t, rfl, rfl, rfl, rfl, by omega, ⟨⟨by rw [HN.out, HS.out], HA.out.glob, HA.out.below, HA.out.same, hx0, hx1, by omega⟩⟩⟩
    · obtain rfl : gk = 7 := by omega
      have e1 := HA.out.same.cell (p := ⟨w.heap.size + 1, 1, none⟩) (by simp)
      have e2 := HA.out.same.cell (p := ⟨w.heap.size, 1, none⟩) (by simp)
      have fm : wr.cell? ⟨w.heap.size + 1, 1, none⟩ = some (.int .i64 604800000) := by rw [e1]; simp [unitsW, go_sem]
      have fn : wr.cell? ⟨w.heap.size, 1, none⟩ = some (.string ⟨#[119]⟩) := by rw [e2]; simp [unitsW, go_sem]
      clear e1 e2
      have HN := Aside0.mk (show told ms 2 = durStep [119] 604800000 true (x, t) by rw [show told ms 2 = durStep [119] 604800000 true (told ms 1) by simp only [told], HA.out.at_])
      have HL := Aside0.mk (durStep_lo [119] 604800000 true (x, t) (by decide) hx0 hx1 (by decide))
      by_cases hm : x % 604800000 = 0
      · by_cases hge : 604800000 ≤ x
        · have HS := Aside0.mk (durStep_put (u := [119]) (m := 604800000) (ex := true) (x := x) (t := t) (by simp [hm]) hge (by decide))
          have q1 : 0 ≤ x / 604800000 := by omega
          have q2 : x / 604800000 ≤ 9223372036854775807 := by omega
          have qd : IntKind.i64.wrap (x.tdiv 604800000) = x / 604800000 := by rw [Int.tdiv_eq_ediv_of_nonneg hx0, IntWalk.i64_in _ ⟨by omega, by omega⟩]
          have hl := Lib.itoa_length_le (x / 604800000) (by omega) (by omega)
          have s1 : ∀ W : World, (Op.stringOp .add ⟨(Lib.itoa (x / 604800000)).toArray⟩ ⟨#[119]⟩).run Tryd.prog W = .ok (.string ⟨(Lib.itoa (x / 604800000) ++ [119]).toArray⟩) W := fun W => run_string_add_lists W _ [119] (by omega) (by decide)
          have s2 : ∀ W : World, (Op.stringOp .add ⟨t.toArray⟩ ⟨(Lib.itoa (x / 604800000) ++ [119]).toArray⟩).run Tryd.prog W = .ok (.string ⟨(t ++ (Lib.itoa (x / 604800000) ++ [119])).toArray⟩) W := fun W => run_string_add_lists W _ _ (by omega) (by simp; omega)
          have c1 : (x % 604800000 != 0) = false := by rw [hm]; rfl
          clear hm
          go_wp2
          go_region_held3 (fun w' => w'.cell? ⟨w.heap.size + 1, 1, none⟩ = some (.int .i64 604800000) ∧ w'.cell? ⟨w.heap.size, 1, none⟩ = some (.string ⟨#[119]⟩)) (first | exact ⟨fm, fn⟩ | exact ⟨fm2, fn2⟩) (first | (go_at_call 37; refine (format_calls _ (by omega) (by omega) _ ?_).mono ?_; (exact HA.out.glob.next (below_drew (Below.refl _ _))); rintro e w2 ⟨rfl, hb⟩; have HK := Aside0.mk (below_step (below_drew (Below.refl wr.heap.size wr)) hb); clear hb; have fm2 := cell_below HK.out fm; have fn2 := cell_below HK.out fn))
          go_wp2
          go_roundg 6
          case measure => omega
          case rel => exact ⟨2, x % 604800000, t ++ (Lib.itoa (x / 604800000) ++ [119]), rfl, rfl, rfl, rfl, by omega, ⟨⟨by rw [HN.out, HS.out], HA.out.glob.next HK.out, below_step HA.out.below HK.out, HA.out.same.trans (HK.out.mono (by have := HA.out.same.size; simp [unitsW] at this; omega)), by omega, by omega, by simp; omega⟩⟩⟩
        · have HS := Aside0.mk (durStep_skip (u := [119]) (m := 604800000) (ex := true) (x := x) (t := t) (.inr (by omega)) hx0)
          have c1 : (x % 604800000 != 0) = false := by rw [hm]; rfl
          have hlt : x < 604800000 := by omega
          clear hm hge
          go_wp2
          go_roundg 6
          case measure => omega
          case rel => exact ⟨2, x, t, rfl, rfl, rfl, rfl, by omega, ⟨⟨by rw [HN.out, HS.out], HA.out.glob, HA.out.below, HA.out.same, hx0, hx1, by omega⟩⟩⟩
      · have HS := Aside0.mk (durStep_skip (u := [119]) (m := 604800000) (ex := true) (x := x) (t := t) (.inl ⟨rfl, hm⟩) hx0)
        have c1 : (x % 604800000 != 0) = true := bne_iff_ne.2 hm
        clear hm
        go_wp2
        go_roundg 6
        case measure => omega
        case rel => exact ⟨2, x, t, rfl, rfl, rfl, rfl, by omega, ⟨⟨by rw [HN.out, HS.out], HA.out.glob, HA.out.below, HA.out.same, hx0, hx1, by omega⟩⟩⟩
    · obtain rfl : gk = 6 := by omega
      have e1 := HA.out.same.cell (p := ⟨w.heap.size + 1, 2, none⟩) (by simp)
      have e2 := HA.out.same.cell (p := ⟨w.heap.size, 2, none⟩) (by simp)
      have fm : wr.cell? ⟨w.heap.size + 1, 2, none⟩ = some (.int .i64 86400000) := by rw [e1]; simp [unitsW, go_sem]
      have fn : wr.cell? ⟨w.heap.size, 2, none⟩ = some (.string ⟨#[100]⟩) := by rw [e2]; simp [unitsW, go_sem]
      clear e1 e2
      have HN := Aside0.mk (show told ms 3 = durStep [100] 86400000 false (x, t) by rw [show told ms 3 = durStep [100] 86400000 false (told ms 2) by simp only [told], HA.out.at_])
      have HL := Aside0.mk (durStep_lo [100] 86400000 false (x, t) (by decide) hx0 hx1 (by decide))
      by_cases hge : 86400000 ≤ x
      · have HS := Aside0.mk (durStep_put (u := [100]) (m := 86400000) (ex := false) (x := x) (t := t) (by simp) hge (by decide))
        have q1 : 0 ≤ x / 86400000 := by omega
        have q2 : x / 86400000 ≤ 9223372036854775807 := by omega
        have qd : IntKind.i64.wrap (x.tdiv 86400000) = x / 86400000 := by rw [Int.tdiv_eq_ediv_of_nonneg hx0, IntWalk.i64_in _ ⟨by omega, by omega⟩]
        have hl := Lib.itoa_length_le (x / 86400000) (by omega) (by omega)
        have s1 : ∀ W : World, (Op.stringOp .add ⟨(Lib.itoa (x / 86400000)).toArray⟩ ⟨#[100]⟩).run Tryd.prog W = .ok (.string ⟨(Lib.itoa (x / 86400000) ++ [100]).toArray⟩) W := fun W => run_string_add_lists W _ [100] (by omega) (by decide)
        have s2 : ∀ W : World, (Op.stringOp .add ⟨t.toArray⟩ ⟨(Lib.itoa (x / 86400000) ++ [100]).toArray⟩).run Tryd.prog W = .ok (.string ⟨(t ++ (Lib.itoa (x / 86400000) ++ [100])).toArray⟩) W := fun W => run_string_add_lists W _ _ (by omega) (by simp; omega)
        go_wp2
        go_region_held3 (fun w' => w'.cell? ⟨w.heap.size + 1, 2, none⟩ = some (.int .i64 86400000) ∧ w'.cell? ⟨w.heap.size, 2, none⟩ = some (.string ⟨#[100]⟩)) (first | exact ⟨fm, fn⟩ | exact ⟨fm2, fn2⟩) (first | (go_at_call 37; refine (format_calls _ (by omega) (by omega) _ ?_).mono ?_; (exact HA.out.glob.next (below_drew (Below.refl _ _))); rintro e w2 ⟨rfl, hb⟩; have HK := Aside0.mk (below_step (below_drew (Below.refl wr.heap.size wr)) hb); clear hb; have fm2 := cell_below HK.out fm; have fn2 := cell_below HK.out fn))
        go_wp2
        go_roundg 5
        case measure => omega
        case rel => exact ⟨3, x % 86400000, t ++ (Lib.itoa (x / 86400000) ++ [100]), rfl, rfl, rfl, rfl, by omega, ⟨⟨by rw [HN.out, HS.out], HA.out.glob.next HK.out, below_step HA.out.below HK.out, HA.out.same.trans (HK.out.mono (by have := HA.out.same.size; simp [unitsW] at this; omega)), by omega, by omega, by simp; omega⟩⟩⟩
      · have HS := Aside0.mk (durStep_skip (u := [100]) (m := 86400000) (ex := false) (x := x) (t := t) (.inr (by omega)) hx0)
        have hlt : x < 86400000 := by omega
        clear hge
        go_wp2
        go_roundg 5
        case measure => omega
        case rel => exact ⟨3, x, t, rfl, rfl, rfl, rfl, by omega, ⟨⟨by rw [HN.out, HS.out], HA.out.glob, HA.out.below, HA.out.same, hx0, hx1, by omega⟩⟩⟩
    · obtain rfl : gk = 5 := by omega
      have e1 := HA.out.same.cell (p := ⟨w.heap.size + 1, 3, none⟩) (by simp)
      have e2 := HA.out.same.cell (p := ⟨w.heap.size, 3, none⟩) (by simp)
      have fm : wr.cell? ⟨w.heap.size + 1, 3, none⟩ = some (.int .i64 3600000) := by rw [e1]; simp [unitsW, go_sem]
      have fn : wr.cell? ⟨w.heap.size, 3, none⟩ = some (.string ⟨#[104]⟩) := by rw [e2]; simp [unitsW, go_sem]
      clear e1 e2
      have HN := Aside0.mk (show told ms 4 = durStep [104] 3600000 false (x, t) by rw [show told ms 4 = durStep [104] 3600000 false (told ms 3) by simp only [told], HA.out.at_])
      have HL := Aside0.mk (durStep_lo [104] 3600000 false (x, t) (by decide) hx0 hx1 (by decide))
      by_cases hge : 3600000 ≤ x
      · have HS := Aside0.mk (durStep_put (u := [104]) (m := 3600000) (ex := false) (x := x) (t := t) (by simp) hge (by decide))
        have q1 : 0 ≤ x / 3600000 := by omega
        have q2 : x / 3600000 ≤ 9223372036854775807 := by omega
        have qd : IntKind.i64.wrap (x.tdiv 3600000) = x / 3600000 := by rw [Int.tdiv_eq_ediv_of_nonneg hx0, IntWalk.i64_in _ ⟨by omega, by omega⟩]
        have hl := Lib.itoa_length_le (x / 3600000) (by omega) (by omega)
        have s1 : ∀ W : World, (Op.stringOp .add ⟨(Lib.itoa (x / 3600000)).toArray⟩ ⟨#[104]⟩).run Tryd.prog W = .ok (.string ⟨(Lib.itoa (x / 3600000) ++ [104]).toArray⟩) W := fun W => run_string_add_lists W _ [104] (by omega) (by decide)
        have s2 : ∀ W : World, (Op.stringOp .add ⟨t.toArray⟩ ⟨(Lib.itoa (x / 3600000) ++ [104]).toArray⟩).run Tryd.prog W = .ok (.string ⟨(t ++ (Lib.itoa (x / 3600000) ++ [104])).toArray⟩) W := fun W => run_string_add_lists W _ _ (by omega) (by simp; omega)
        go_wp2
        go_region_held3 (fun w' => w'.cell? ⟨w.heap.size + 1, 3, none⟩ = some (.int .i64 3600000) ∧ w'.cell? ⟨w.heap.size, 3, none⟩ = some (.string ⟨#[104]⟩)) (first | exact ⟨fm, fn⟩ | exact ⟨fm2, fn2⟩) (first | (go_at_call 37; refine (format_calls _ (by omega) (by omega) _ ?_).mono ?_; (exact HA.out.glob.next (below_drew (Below.refl _ _))); rintro e w2 ⟨rfl, hb⟩; have HK := Aside0.mk (below_step (below_drew (Below.refl wr.heap.size wr)) hb); clear hb; have fm2 := cell_below HK.out fm; have fn2 := cell_below HK.out fn))
        go_wp2
        go_roundg 4
        case measure => omega
        case rel => exact ⟨4, x % 3600000, t ++ (Lib.itoa (x / 3600000) ++ [104]), rfl, rfl, rfl, rfl, by omega, ⟨⟨by rw [HN.out, HS.out], HA.out.glob.next HK.out, below_step HA.out.below HK.out, HA.out.same.trans (HK.out.mono (by have := HA.out.same.size; simp [unitsW] at this; omega)), by omega, by omega, by simp; omega⟩⟩⟩
      · have HS := Aside0.mk (durStep_skip (u := [104]) (m := 3600000) (ex := false) (x := x) (t := t) (.inr (by omega)) hx0)
        have hlt : x < 3600000 := by omega
        clear hge
        go_wp2
        go_roundg 4
        case measure => omega
        case rel => exact ⟨4, x, t, rfl, rfl, rfl, rfl, by omega, ⟨⟨by rw [HN.out, HS.out], HA.out.glob, HA.out.below, HA.out.same, hx0, hx1, by omega⟩⟩⟩
    · obtain rfl : gk = 4 := by omega
      have e1 := HA.out.same.cell (p := ⟨w.heap.size + 1, 4, none⟩) (by simp)
      have e2 := HA.out.same.cell (p := ⟨w.heap.size, 4, none⟩) (by simp)
      have fm : wr.cell? ⟨w.heap.size + 1, 4, none⟩ = some (.int .i64 60000) := by rw [e1]; simp [unitsW, go_sem]
      have fn : wr.cell? ⟨w.heap.size, 4, none⟩ = some (.string ⟨#[109]⟩) := by rw [e2]; simp [unitsW, go_sem]
      clear e1 e2
      have HN := Aside0.mk (show told ms 5 = durStep [109] 60000 false (x, t) by rw [show told ms 5 = durStep [109] 60000 false (told ms 4) by simp only [told], HA.out.at_])
      have HL := Aside0.mk (durStep_lo [109] 60000 false (x, t) (by decide) hx0 hx1 (by decide))
      by_cases hge : 60000 ≤ x
      · have HS := Aside0.mk (durStep_put (u := [109]) (m := 60000) (ex := false) (x := x) (t := t) (by simp) hge (by decide))
        have q1 : 0 ≤ x / 60000 := by omega
        have q2 : x / 60000 ≤ 9223372036854775807 := by omega
        have qd : IntKind.i64.wrap (x.tdiv 60000) = x / 60000 := by rw [Int.tdiv_eq_ediv_of_nonneg hx0, IntWalk.i64_in _ ⟨by omega, by omega⟩]
        have hl := Lib.itoa_length_le (x / 60000) (by omega) (by omega)
        have s1 : ∀ W : World, (Op.stringOp .add ⟨(Lib.itoa (x / 60000)).toArray⟩ ⟨#[109]⟩).run Tryd.prog W = .ok (.string ⟨(Lib.itoa (x / 60000) ++ [109]).toArray⟩) W := fun W => run_string_add_lists W _ [109] (by omega) (by decide)
        have s2 : ∀ W : World, (Op.stringOp .add ⟨t.toArray⟩ ⟨(Lib.itoa (x / 60000) ++ [109]).toArray⟩).run Tryd.prog W = .ok (.string ⟨(t ++ (Lib.itoa (x / 60000) ++ [109])).toArray⟩) W := fun W => run_string_add_lists W _ _ (by omega) (by simp; omega)
        go_wp2
        go_region_held3 (fun w' => w'.cell? ⟨w.heap.size + 1, 4, none⟩ = some (.int .i64 60000) ∧ w'.cell? ⟨w.heap.size, 4, none⟩ = some (.string ⟨#[109]⟩)) (first | exact ⟨fm, fn⟩ | exact ⟨fm2, fn2⟩) (first | (go_at_call 37; refine (format_calls _ (by omega) (by omega) _ ?_).mono ?_; (exact HA.out.glob.next (below_drew (Below.refl _ _))); rintro e w2 ⟨rfl, hb⟩; have HK := Aside0.mk (below_step (below_drew (Below.refl wr.heap.size wr)) hb); clear hb; have fm2 := cell_below HK.out fm; have fn2 := cell_below HK.out fn))
        go_wp2
        go_roundg 3
        case measure => omega
        case rel => exact ⟨5, x % 60000, t ++ (Lib.itoa (x / 60000) ++ [109]), rfl, rfl, rfl, rfl, by omega, ⟨⟨by rw [HN.out, HS.out], HA.out.glob.next HK.out, below_step HA.out.below HK.out, HA.out.same.trans (HK.out.mono (by have := HA.out.same.size; simp [unitsW] at this; omega)), by omega, by omega, by simp; omega⟩⟩⟩
      · have HS := Aside0.mk (durStep_skip (u := [109]) (m := 60000) (ex := false) (x := x) (t := t) (.inr (by omega)) hx0)
        have hlt : x < 60000 := by omega
        clear hge
        go_wp2
        go_roundg 3
        case measure => omega
        case rel => exact ⟨5, x, t, rfl, rfl, rfl, rfl, by omega, ⟨⟨by rw [HN.out, HS.out], HA.out.glob, HA.out.below, HA.out.same, hx0, hx1, by omega⟩⟩⟩
    · obtain rfl : gk = 3 := by omega
      have e1 := HA.out.same.cell (p := ⟨w.heap.size + 1, 5, none⟩) (by simp)
      have e2 := HA.out.same.cell (p := ⟨w.heap.size, 5, none⟩) (by simp)
      have fm : wr.cell? ⟨w.heap.size + 1, 5, none⟩ = some (.int .i64 1000) := by rw [e1]; simp [unitsW, go_sem]
      have fn : wr.cell? ⟨w.heap.size, 5, none⟩ = some (.string ⟨#[115]⟩) := by rw [e2]; simp [unitsW, go_sem]
      clear e1 e2
      have HN := Aside0.mk (show told ms 6 = durStep [115] 1000 false (x, t) by rw [show told ms 6 = durStep [115] 1000 false (told ms 5) by simp only [told], HA.out.at_])
      have HL := Aside0.mk (durStep_lo [115] 1000 false (x, t) (by decide) hx0 hx1 (by decide))
      by_cases hge : 1000 ≤ x
      · have HS := Aside0.mk (durStep_put (u := [115]) (m := 1000) (ex := false) (x := x) (t := t) (by simp) hge (by decide))
        have q1 : 0 ≤ x / 1000 := by omega
        have q2 : x / 1000 ≤ 9223372036854775807 := by omega
        have qd : IntKind.i64.wrap (x.tdiv 1000) = x / 1000 := by rw [Int.tdiv_eq_ediv_of_nonneg hx0, IntWalk.i64_in _ ⟨by omega, by omega⟩]
        have hl := Lib.itoa_length_le (x / 1000) (by omega) (by omega)
        have s1 : ∀ W : World, (Op.stringOp .add ⟨(Lib.itoa (x / 1000)).toArray⟩ ⟨#[115]⟩).run Tryd.prog W = .ok (.string ⟨(Lib.itoa (x / 1000) ++ [115]).toArray⟩) W := fun W => run_string_add_lists W _ [115] (by omega) (by decide)
        have s2 : ∀ W : World, (Op.stringOp .add ⟨t.toArray⟩ ⟨(Lib.itoa (x / 1000) ++ [115]).toArray⟩).run Tryd.prog W = .ok (.string ⟨(t ++ (Lib.itoa (x / 1000) ++ [115])).toArray⟩) W := fun W => run_string_add_lists W _ _ (by omega) (by simp; omega)
        go_wp2
        go_region_held3 (fun w' => w'.cell? ⟨w.heap.size + 1, 5, none⟩ = some (.int .i64 1000) ∧ w'.cell? ⟨w.heap.size, 5, none⟩ = some (.string ⟨#[115]⟩)) (first | exact ⟨fm, fn⟩ | exact ⟨fm2, fn2⟩) (first | (go_at_call 37; refine (format_calls _ (by omega) (by omega) _ ?_).mono ?_; (exact HA.out.glob.next (below_drew (Below.refl _ _))); rintro e w2 ⟨rfl, hb⟩; have HK := Aside0.mk (below_step (below_drew (Below.refl wr.heap.size wr)) hb); clear hb; have fm2 := cell_below HK.out fm; have fn2 := cell_below HK.out fn))
        go_wp2
        go_roundg 2
        case measure => omega
        case rel => exact ⟨6, x % 1000, t ++ (Lib.itoa (x / 1000) ++ [115]), rfl, rfl, rfl, rfl, by omega, ⟨⟨by rw [HN.out, HS.out], HA.out.glob.next HK.out, below_step HA.out.below HK.out, HA.out.same.trans (HK.out.mono (by have := HA.out.same.size; simp [unitsW] at this; omega)), by omega, by omega, by simp; omega⟩⟩⟩
      · have HS := Aside0.mk (durStep_skip (u := [115]) (m := 1000) (ex := false) (x := x) (t := t) (.inr (by omega)) hx0)
        have hlt : x < 1000 := by omega
        clear hge
        go_wp2
        go_roundg 2
        case measure => omega
        case rel => exact ⟨6, x, t, rfl, rfl, rfl, rfl, by omega, ⟨⟨by rw [HN.out, HS.out], HA.out.glob, HA.out.below, HA.out.same, hx0, hx1, by omega⟩⟩⟩
    · obtain rfl : gk = 2 := by omega
      have e1 := HA.out.same.cell (p := ⟨w.heap.size + 1, 6, none⟩) (by simp)
      have e2 := HA.out.same.cell (p := ⟨w.heap.size, 6, none⟩) (by simp)
      have fm : wr.cell? ⟨w.heap.size + 1, 6, none⟩ = some (.int .i64 1) := by rw [e1]; simp [unitsW, go_sem]
      have fn : wr.cell? ⟨w.heap.size, 6, none⟩ = some (.string ⟨#[109, 115]⟩) := by rw [e2]; simp [unitsW, go_sem]
      clear e1 e2
      have HN := Aside0.mk (show told ms 7 = durStep [109, 115] 1 false (x, t) by rw [show told ms 7 = durStep [109, 115] 1 false (told ms 6) by simp only [told], HA.out.at_])
      have HL := Aside0.mk (durStep_lo [109, 115] 1 false (x, t) (by decide) hx0 hx1 (by decide))
      by_cases hge : 1 ≤ x
      · have HS := Aside0.mk (durStep_put (u := [109, 115]) (m := 1) (ex := false) (x := x) (t := t) (by simp) hge (by decide))
        have q1 : 0 ≤ x := by omega
        have q2 : x ≤ 9223372036854775807 := by omega
        have qd : IntKind.i64.wrap x = x := IntWalk.i64_in _ ⟨by omega, by omega⟩
        have hl := Lib.itoa_length_le x (by omega) (by omega)
        have s1 : ∀ W : World, (Op.stringOp .add ⟨(Lib.itoa x).toArray⟩ ⟨#[109, 115]⟩).run Tryd.prog W = .ok (.string ⟨(Lib.itoa x ++ [109, 115]).toArray⟩) W := fun W => run_string_add_lists W _ [109, 115] (by omega) (by decide)
        have s2 : ∀ W : World, (Op.stringOp .add ⟨t.toArray⟩ ⟨(Lib.itoa x ++ [109, 115]).toArray⟩).run Tryd.prog W = .ok (.string ⟨(t ++ (Lib.itoa x ++ [109, 115])).toArray⟩) W := fun W => run_string_add_lists W _ _ (by omega) (by simp; omega)
        go_wp2
        go_region_held3 (fun w' => w'.cell? ⟨w.heap.size + 1, 6, none⟩ = some (.int .i64 1) ∧ w'.cell? ⟨w.heap.size, 6, none⟩ = some (.string ⟨#[109, 115]⟩)) (first | exact ⟨fm, fn⟩ | exact ⟨fm2, fn2⟩) (first | (go_at_call 37; refine (format_calls _ (by omega) (by omega) _ ?_).mono ?_; (exact HA.out.glob.next (below_drew (Below.refl _ _))); rintro e w2 ⟨rfl, hb⟩; have HK := Aside0.mk (below_step (below_drew (Below.refl wr.heap.size wr)) hb); clear hb; have fm2 := cell_below HK.out fm; have fn2 := cell_below HK.out fn))
        go_wp2
        go_roundg 1
        case measure => omega
        case rel => exact ⟨7, 0, t ++ (Lib.itoa x ++ [109, 115]), rfl, rfl, rfl, rfl, by omega, ⟨⟨by rw [HN.out, HS.out]; simp, HA.out.glob.next HK.out, below_step HA.out.below HK.out, HA.out.same.trans (HK.out.mono (by have := HA.out.same.size; simp [unitsW] at this; omega)), by omega, by omega, by simp; omega⟩⟩⟩
      · have HS := Aside0.mk (durStep_skip (u := [109, 115]) (m := 1) (ex := false) (x := x) (t := t) (.inr (by omega)) hx0)
        have hlt : x < 1 := by omega
        clear hge
        go_wp2
        go_roundg 1
        case measure => omega
        case rel => exact ⟨7, x, t, rfl, rfl, rfl, rfl, by omega, ⟨⟨by rw [HN.out, HS.out], HA.out.glob, HA.out.below, HA.out.same, hx0, hx1, by omega⟩⟩⟩
end Go.Proofs.YtaajhionmdjhjaaDoor
