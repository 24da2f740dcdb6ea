/- The package's EscapeName: by dots, and by values. -/
import Derived.Test.YtaajhionmdjhjaaDoorEscA
set_option linter.unusedVariables false
set_option linter.unusedSimpArgs false
namespace Go.Proofs.YtaajhionmdjhjaaDoor
open Go.RowKit

theorem piece_us {k : Nat} (hk : k ≠ 1) {pos : Nat} : piece k 95 pos = [95, 95] := by unfold piece; rw [if_neg hk, if_pos rfl]
theorem piece_dot {pos : Nat} : piece 2 46 pos = [95, 100, 111, 116, 95] := by unfold piece; rfl
theorem piece_leg {k : Nat} (hk : k ≠ 1) {c : Int} {pos : Nat} (h1 : c ≠ 95) (h2 : c ≠ 46) (h : LegOk c pos true) : piece k c pos = oneB c := by
  unfold piece; rw [if_neg hk, if_neg h1, if_neg (fun e => h2 e.2), if_pos h]
theorem piece_no2 {c : Int} {pos : Nat} (h1 : c ≠ 95) (h2 : c ≠ 46) (h : ¬ LegOk c pos true) : piece 2 c pos = [95, 95] := by
  unfold piece; rw [if_neg (by decide), if_neg h1, if_neg (fun e => h2 e.2), if_neg h, if_pos rfl]
theorem piece_no3 {c : Int} {pos : Nat} (h1 : c ≠ 95) (h : ¬ LegOk c pos true) : piece 3 c pos = [95] ++ (hexT c.toNat).data.toList ++ [95] := by
  unfold piece; rw [if_neg (by decide), if_neg h1, if_neg (fun e => absurd e.1 (by decide)), if_neg h, if_neg (by decide)]
theorem leg_not46 {c : Int} {pos : Nat} (h : LegOk c pos true) : c ≠ 46 := by unfold LegOk at h; omega

set_option maxHeartbeats 2000000 in
set_option maxRecDepth 100000 in
theorem escape2_calls (s : ByteArray) (hs : s.size ≤ 200) (h0 : s.size ≠ 0) (w : World) :
    Calls Tryd.prog 64 #[.string s, .int .i64 2] w fun e w' => e = .returned (.string ⟨(escT 2 s).toArray⟩) ∧ Below w.heap.size w w' := by
  have c0 : ((s.size : Int) == 0) = false := beq_eq_false_iff_ne.2 (by omega)
  clear h0
  obtain ⟨wo, hwo⟩ : ∃ wo : World, wo = w := ⟨_, rfl⟩
  subst hwo
  obtain ⟨N, hN⟩ : ∃ N, wo.heap.size + 1 = N := ⟨_, rfl⟩
  have HST := Aside0.mk (EscAt.start wo (wo.alloc (.cells #[.pointer none, .slice none 0 0] 99)) 2 s (fresh_below (Below.refl _ _)) (below_fresh (Below.refl _ _)) (by simp))
  rw [show (wo.alloc (.cells #[.pointer none, .slice none 0 0] 99)).heap.size = N by simp [hN]] at HST
  go_enter Tryd.func64, Tryd.ntmps64
  go_wp2_with fail
  try rw [hN]
  generalize (wo.alloc (.cells #[.pointer none, .slice none 0 0] 99)).iter s 0 = wi at HST ⊢
  clear hN
  go_loopg [8] (s.size + 1) (fun gk v6 wr => ∃ (pos : Nat) (acc : List UInt8), Aside0 (EscAt wo N 2 s gk pos acc wr))
  case atStart => exact ⟨0, escHead 2, HST⟩
  case round =>
    obtain ⟨pos, acc, H⟩ := hrel
    by_cases hp : pos < s.size
    · obtain ⟨f, rfl⟩ : ∃ m, gk = m + 1 := ⟨gk - 1, by
        have := H.out.fuel
        rcases gk with _ | m
        · omega
        · rfl⟩
      obtain ⟨c, W1, hc, hv, hnx, hbd, hsz, hbl, hgo⟩ := H.out.next hp
      have HG := Aside0.mk hgo
      have HB := Aside0.mk hbd
      have HL2 := Aside0.mk H.out.len
      have HV := Aside0.mk hv
      have HBL := Aside0.mk hbl
      clear hgo hbd hv hbl
      by_cases h95 : c = 95
      · subst h95
        go_wp2_with (go_at_call 78; refine (writeString_calls wo.heap.size wo.heap.size _ _ _ HB.out (by rw [bytes_len]; have := HL2.out; simp [ByteArray.size]; omega) hsz).mono ?_; rintro e W2 ⟨rfl, hw⟩)
        obtain ⟨pos', hE⟩ := HG.out W2 (by rw [show ((95 : Nat) : Int) = 95 from rfl, piece_us (by decide)]; simpa [Lib.byteCells, Lib.strCells] using hw)
        have HE := Aside0.mk hE
        clear hE hw
        go_wp2
        go_roundg f
        case measure => omega
        case rel => exact ⟨pos', _, HE⟩
      · have a95 : ((c : Int) == 95) = false := by simp; omega
        by_cases h46 : c = 46
        · subst h46
          clear a95
          go_wp2_with (go_at_call 78; refine (writeString_calls wo.heap.size wo.heap.size _ _ _ HB.out (by rw [bytes_len]; have := HL2.out; simp [ByteArray.size]; omega) hsz).mono ?_; rintro e W2 ⟨rfl, hw⟩)
          obtain ⟨pos', hE⟩ := HG.out W2 (by rw [show ((46 : Nat) : Int) = 46 from rfl, piece_dot]; simpa [Lib.byteCells, Lib.strCells] using hw)
          have HE := Aside0.mk hE
          clear hE hw
          go_wp2
          go_roundg f
          case measure => omega
          case rel => exact ⟨pos', _, HE⟩
        · have a46 : ((c : Int) == 46) = false := by simp; omega
          have H95 := Aside0.mk (show (c : Int) ≠ 95 by omega)
          have H46 := Aside0.mk (show (c : Int) ≠ 46 by omega)
          clear h95 h46
          by_cases hok : LegOk (c : Int) pos true
          · have HO := Aside0.mk hok
            have hd := decide_eq_true hok
            have hlt := legOk_lt hok
            clear hok
            go_wp2_with (first | (go_at_call 75; refine (legRune_calls _ pos (by omega) (by omega) (by omega) _).mono ?_; rintro e w2 ⟨rfl, rfl⟩; rw [hd]) | (go_at_call 76; refine (writeRune_calls wo.heap.size wo.heap.size _ _ hlt.1 hlt.2 _ HB.out (by rw [bytes_len]; have := HL2.out; omega) hsz).mono ?_; rintro e W2 ⟨⟨n, rfl⟩, hw⟩))
            obtain ⟨pos', hE⟩ := HG.out W2 (by rw [piece_leg (by decide) H95.out H46.out HO.out, bytes_one hlt]; exact hw)
            have HE := Aside0.mk hE
            clear hE hw
            go_wp2
            go_roundg f
            case measure => omega
            case rel => exact ⟨pos', _, HE⟩
          · have HO := Aside0.mk hok
            have hd := decide_eq_false hok
            clear hok
            go_wp2_with (first | (go_at_call 75; refine (legRune_calls _ pos (by omega) (by omega) (by omega) _).mono ?_; rintro e w2 ⟨rfl, rfl⟩; rw [hd]) | (go_at_call 78; refine (writeString_calls wo.heap.size wo.heap.size _ _ _ HB.out (by rw [bytes_len]; have := HL2.out; simp [ByteArray.size]; omega) hsz).mono ?_; rintro e W2 ⟨rfl, hw⟩))
            obtain ⟨pos', hE⟩ := HG.out W2 (by rw [piece_no2 H95.out H46.out HO.out]; simpa [Lib.byteCells, Lib.strCells] using hw)
            have HE := Aside0.mk hE
            clear hE hw
            go_wp2
            go_roundg f
            case measure => omega
            case rel => exact ⟨pos', _, HE⟩
    · obtain ⟨hacc, hnx⟩ := H.out.stop hp
      have HA := Aside0.mk hacc
      clear hacc
      go_wp2_with (go_at_call 77; refine (Tryd.Builder_String_any_k wo.heap.size wo.heap.size acc _ H.out.bld H.out.below.size).mono ?_; rintro e w3 ⟨rfl, hib, hb3, hok3⟩)
      go_ret
      exact ⟨by rw [HA.out]; rfl, H.out.below.trans hb3⟩
theorem Wrote.below {B b : Nat} {bs : List Value} {w w1 w2 : World} (h : Wrote B b bs w w1) (hb : Below w1.heap.size w1 w2) : Wrote B b bs w w2 := by
  have hlt := h.1.lt
  have hB := h.1.1
  refine ⟨?_, h.2.1.trans (hb.mono (by omega)), fun k o hk h1 h2 => ?_⟩
  · obtain ⟨hB, v, hbk, hown, hne⟩ := h.1
    refine ⟨hB, v, (hb.block b hlt).trans hbk, ⟨hown.1, ?_⟩, hne⟩
    rcases hown.2 with hn | ⟨g, cap, cur, fz, hv, hbg, hg, rest⟩
    · exact .inl hn
    · exact .inr ⟨g, cap, cur, fz, hv, hbg, (hb.block g (Array.getElem?_eq_some_iff.1 hg).1).trans hg, rest⟩
  · have := h.2.2 k o hk h1 h2
    exact (hb.block k (Array.getElem?_eq_some_iff.1 this).1).trans this
theorem wrote_lt {b : Nat} {bs : List Value} {w w2 : World} (h : Wrote b b bs w w2) : b < w2.heap.size := h.1.lt
set_option maxHeartbeats 4000000 in
set_option maxRecDepth 100000 in
theorem escape3_calls (s : ByteArray) (hs : s.size ≤ 200) (h0 : s.size ≠ 0) (hl : ¬ Legal s true) (w : World) (hC : Ctz w) (h7 : 7 ≤ w.heap.size) :
    Calls Tryd.prog 64 #[.string s, .int .i64 3] w fun e w' => e = .returned (.string ⟨(escT 3 s).toArray⟩) ∧ Below w.heap.size w w' := by
  have c0 : ((s.size : Int) == 0) = false := beq_eq_false_iff_ne.2 (by omega)
  have HL := Aside0.mk (legB_false hl)
  have HC := Aside0.mk hC
  clear h0 hl hC
  obtain ⟨wo, hwo⟩ : ∃ wo : World, wo = w := ⟨_, rfl⟩
  subst hwo
  go_enter Tryd.func64, Tryd.ntmps64
  go_wp2_with (go_at_call 60; refine (metricLegacy_calls s (by omega) _).mono ?_; rintro e w1 ⟨rfl, hb⟩; rw [HL.out])
  have HB0 := Aside0.mk (fresh_below hb)
  have HB1 := Aside0.mk (below_fresh hb)
  have hn := (below_fresh hb).size
  clear hb
  go_wp2_with (go_at_call 78; refine (writeString_calls wo.heap.size wo.heap.size [] _ _ HB0.out (by simp [ByteArray.size]) hn).mono ?_; rintro e w2 ⟨rfl, hw⟩)
  have hst := EscAt.start wo w2 3 s (by simpa [escHead, Lib.byteCells, Lib.strCells] using hw.is) (HB1.out.trans hw.2.1) (wrote_lt hw)
  clear hw
  have HST := Aside0.mk hst
  clear hst
  obtain ⟨N, hN⟩ : ∃ N, w2.heap.size = N := ⟨_, rfl⟩
  rw [hN] at HST
  go_wp2_with fail
  try rw [hN]
  generalize w2.iter s 0 = wi at HST ⊢
  clear hN hn
  go_loopg [10] (s.size + 1) (fun gk v6 wr => ∃ (pos : Nat) (acc : List UInt8), Aside0 (EscAt wo N 3 s gk pos acc wr))
  case atStart => exact ⟨0, escHead 3, HST⟩
  case round =>
    obtain ⟨pos, acc, H⟩ := hrel
    by_cases hp : pos < s.size
    · obtain ⟨f, rfl⟩ : ∃ m, gk = m + 1 := ⟨gk - 1, by
        have := H.out.fuel
        rcases gk with _ | m
        · omega
        · rfl⟩
      obtain ⟨c, W1, hc, hv, hnx, hbd, hsz, hbl, hgo⟩ := H.out.next hp
      have HG := Aside0.mk hgo
      have HB := Aside0.mk hbd
      have HL2 := Aside0.mk H.out.len
      have HV := Aside0.mk hv
      have HBL := Aside0.mk hbl
      clear hgo hbd hv hbl
      by_cases h95 : c = 95
      · subst h95
        go_wp2_with (go_at_call 78; refine (writeString_calls wo.heap.size wo.heap.size _ _ _ HB.out (by rw [bytes_len]; have := HL2.out; simp [ByteArray.size]; omega) hsz).mono ?_; rintro e W2 ⟨rfl, hw⟩)
        obtain ⟨pos', hE⟩ := HG.out W2 (by rw [show ((95 : Nat) : Int) = 95 from rfl, piece_us (by decide)]; simpa [Lib.byteCells, Lib.strCells] using hw)
        have HE := Aside0.mk hE
        clear hE hw
        go_wp2
        go_roundg f
        case measure => omega
        case rel => exact ⟨pos', _, HE⟩
      · have a95 : ((c : Int) == 95) = false := by simp; omega
        have H95 := Aside0.mk (show (c : Int) ≠ 95 by omega)
        clear h95
        by_cases hok : LegOk (c : Int) pos true
        · have HO := Aside0.mk hok
          have hd := decide_eq_true hok
          have hlt := legOk_lt hok
          clear hok
          go_wp2_with (first | (go_at_call 75; refine (legRune_calls _ pos (by omega) (by omega) (by omega) _).mono ?_; rintro e w2 ⟨rfl, rfl⟩; rw [hd]) | (go_at_call 76; refine (writeRune_calls wo.heap.size wo.heap.size _ _ hlt.1 hlt.2 _ HB.out (by rw [bytes_len]; have := HL2.out; omega) hsz).mono ?_; rintro e W2 ⟨⟨n, rfl⟩, hw⟩))
          obtain ⟨pos', hE⟩ := HG.out W2 (by rw [piece_leg (by decide) H95.out (leg_not46 HO.out) HO.out, bytes_one hlt]; exact hw)
          have HE := Aside0.mk hE
          clear hE hw
          go_wp2
          go_roundg f
          case measure => omega
          case rel => exact ⟨pos', _, HE⟩
        · have HO := Aside0.mk hok
          have hd := decide_eq_false hok
          clear hok
          go_wp2_with (first | (go_at_call 75; refine (legRune_calls _ pos (by omega) (by omega) (by omega) _).mono ?_; rintro e w2 ⟨rfl, rfl⟩; rw [hd]) | (go_at_call 79; refine (Tryd.utf8_ValidRune _ _).mono ?_; rintro e w2 ⟨rfl, rfl⟩; rw [HV.out]) | (go_at_call 76; refine (writeRune_calls wo.heap.size wo.heap.size _ _ (by omega) (by omega) _ HB.out (by rw [bytes_len]; have := HL2.out; omega) hsz).mono ?_; rintro e Wa ⟨⟨n, rfl⟩, hwa⟩))
          have HW1 := Aside0.mk hwa
          clear hwa
          go_wp2_with fail
          refine (hex_calls c hc _ (cell_below (HBL.out.trans HW1.out.2.1) HC.out) (Nat.le_trans h7 (HBL.out.trans HW1.out.2.1).size)).mono ?_
          rintro e Wh ⟨rfl, hbh⟩
          have HW2 := Aside0.mk (HW1.out.below hbh)
          clear hbh
          go_wp2_with (go_at_call 78; refine (writeString_calls wo.heap.size wo.heap.size _ _ _ HW2.out.is (by have := hexT_size c; simp only [List.length_append, bytes_len, List.length_cons, List.length_nil]; have := HL2.out; omega) (Nat.le_trans hsz HW2.out.2.1.size)).mono ?_; rintro e Wb ⟨rfl, hwb⟩)
          have HW3 := Aside0.mk (HW2.out.trans hwb)
          clear hwb
          go_wp2_with (go_at_call 76; refine (writeRune_calls wo.heap.size wo.heap.size _ _ (by omega) (by omega) _ HW3.out.is (by have := hexT_size c; simp only [List.length_append, bytes_len, List.length_cons, List.length_nil, Lib.strCells_length]; have := HL2.out; omega) (Nat.le_trans hsz HW3.out.2.1.size)).mono ?_; rintro e W2 ⟨⟨n2, rfl⟩, hwc⟩)
          have hw := HW3.out.trans hwc
          clear hwc
          obtain ⟨pos', hE⟩ := HG.out W2 (by rw [piece_no3 H95.out HO.out]; simpa [Lib.byteCells, Lib.strCells] using hw)
          have HE := Aside0.mk hE
          clear hE hw
          go_wp2
          go_roundg f
          case measure => omega
          case rel => exact ⟨pos', _, HE⟩
    · obtain ⟨hacc, hnx⟩ := H.out.stop hp
      have HA := Aside0.mk hacc
      clear hacc
      go_wp2_with (go_at_call 77; refine (Tryd.Builder_String_any_k wo.heap.size wo.heap.size acc _ H.out.bld H.out.below.size).mono ?_; rintro e w3 ⟨rfl, hib, hb3, hok3⟩)
      go_ret
      exact ⟨by rw [HA.out]; rfl, H.out.below.trans hb3⟩
end Go.Proofs.YtaajhionmdjhjaaDoor
