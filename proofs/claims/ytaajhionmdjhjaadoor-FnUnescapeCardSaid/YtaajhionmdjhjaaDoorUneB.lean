/- The package's UnescapeName by values, of an escaped text. -/
import Derived.Test.YtaajhionmdjhjaaDoorUneA
import Derived.Test.YtaajhionmdjhjaaDoorEscB
import Derived.Test.YtaajhionmdjhjaaDoorUneV
import Derived.Test.YtaajhionmdjhjaaDoorUneH
set_option linter.unusedVariables false
set_option linter.unusedSimpArgs false
namespace Go.Proofs.YtaajhionmdjhjaaDoor
open Go.RowKit

theorem piece_ne (k : Nat) (c : Int) (pos : Nat) : piece k c pos ≠ [] := by
  unfold piece oneB
  repeat' split
  all_goals simp
theorem decode_low (s : ByteArray) (pos : Nat) (h : pos < s.size) (hc : (Utf8.decode s pos).1 < 128) : (s[pos]'h).toNat = (Utf8.decode s pos).1 ∧ (Utf8.decode s pos).2 = 1 := by
  by_cases hb : (s[pos]'h).toNat < 128
  · rw [decode_ascii s pos h hb]; exact ⟨rfl, rfl⟩
  · have := (decode_high s pos h (by omega)).1
    omega
theorem take_one (s : ByteArray) (pos : Nat) (h : pos < s.size) (c : Nat) (hc : (s[pos]'h).toNat = c) : Lib.byteCells (s.data.toList.take (pos + 1)) = Lib.byteCells (s.data.toList.take pos) ++ [.int .u8 (c : Int)] := by
  have hl : pos < s.data.toList.length := by rw [len_toList]; exact h
  rw [List.take_add_one, List.getElem?_eq_getElem hl]
  unfold Lib.byteCells
  rw [List.map_append]
  have e : s.data.toList[pos]'hl = s[pos]'h := rfl
  rw [e]
  simp [hc]
/-- From a place on, rune by rune: all below U+100000. -/
def lowFrom (s : ByteArray) : Nat → Nat → Prop
  | 0, _ => True
  | f + 1, pos => pos < s.size → (Utf8.decode s pos).1 < 1048576 ∧ lowFrom s f (pos + (Utf8.decode s pos).2)
theorem hexN_snoc (l : List Int) (x : Int) : hexN (l ++ [x]) = hexN l * 16 + hexV x := by
  unfold hexN
  rw [List.foldl_append]
  rfl
theorem hexV_lt (x : Int) (h : HexDig x) : hexV x < 16 := by
  unfold HexDig at h
  unfold hexV
  split <;> omega
theorem hexN_small : ∀ (l : List Int), (∀ x ∈ l, HexDig x) → hexN l < 16 ^ l.length
  | [], _ => by simp [hexN]
  | x :: l, h => by
    have h1 := hexN_small l (fun y hy => h y (List.mem_cons_of_mem _ hy))
    have h2 := hexV_lt x (h x (List.mem_cons_self ..))
    have h3 : hexN (x :: l) = hexV x * 16 ^ l.length + hexN l := by
      rw [show hexN (x :: l) = l.foldl (fun n x => n * 16 + hexV x) (0 * 16 + hexV x) from rfl, hexN_from, Nat.zero_mul, Nat.zero_add]
    rw [h3, List.length_cons, Nat.pow_succ]
    have : hexV x * 16 ^ l.length ≤ 15 * 16 ^ l.length := Nat.mul_le_mul_right _ (by omega)
    omega
/-- A round of unescaping: place i of the rest stands for place pos of the text; the builder holds the text ahead of it. -/
structure UneAt (wo : World) (s R : ByteArray) (f pos i : Nat) (wr : World) : Prop where
  rest : R.data.toList.drop i = escTail 3 s f pos
  hi : i ≤ R.size
  hp : pos ≤ s.size
  fuel : s.size < pos + f
  valid : Lib.validD (s.data.toList.drop pos) = true
  bld : Lib.IsBuilderF 99 5 wo.heap.size wo.heap.size (Lib.byteCells (s.data.toList.take pos)) wr
  below : Below wo.heap.size wo wr
  low : lowFrom s f pos

set_option maxHeartbeats 4000000 in
set_option maxRecDepth 100000 in
theorem unesc3_calls (s R : ByteArray) (hs : s.size ≤ 200) (h0 : s.size ≠ 0) (hR : R.data.toList = escTail 3 s (s.size + 1) 0) (hv : Lib.validD s.data.toList = true)
    (hlow : lowFrom s (s.size + 1) 0) (e : ByteArray) (hE : e.data.toList = [85, 95, 95] ++ R.data.toList) (hRs : R.size ≤ 10000) (w : World) :
    Calls Tryd.prog 67 #[.string e, .int .i64 3] w fun e' w' => e' = .returned (.string s) ∧ Below w.heap.size w w' := by
  have hes : e.size = R.size + 3 := by rw [← len_toList, hE, List.length_append, len_toList]; simp; omega
  have c0 : ((e.size : Int) == 0) = false := beq_eq_false_iff_ne.2 (by omega)
  have hp1 : Lib.hasPrefix e.data.toList [85, 95, 95] = true := by rw [hE]; simp [Lib.hasPrefix, List.isPrefixOf]
  have hp2 : (⟨(Lib.trimPrefix e.data.toList [85, 95, 95]).toArray⟩ : ByteArray) = R := by
    unfold Lib.trimPrefix
    rw [hp1, if_pos rfl, hE]
    rfl
  have HP := Aside0.mk (And.intro hp1 hp2)
  have HR := Aside0.mk hR
  have HV := Aside0.mk hv
  have HLOW := Aside0.mk hlow
  have HES := Aside0.mk hes
  clear hp1 hp2 hR hv hlow hE hes
  obtain ⟨wo, hwo⟩ : ∃ wo : World, wo = w := ⟨_, rfl⟩
  subst hwo
  go_enter Tryd.func67, Tryd.ntmps67
  go_wp2
  go_step3
  go_wp2_with (go_at_call 81; refine (Tryd.strings_CutPrefix e ⟨#[85, 95, 95]⟩ _).mono ?_; rintro e' w1 ⟨rfl, hh⟩; have hh2 := hh.symm; clear hh; subst hh2; rw [show (⟨#[85, 95, 95]⟩ : ByteArray).data.toList = [85, 95, 95] from rfl, HP.out.1, HP.out.2])
  first | go_step3 | (go_outline; trace_state)
  go_wp2
  go_loopg [8] (s.size + 1) (fun gk v8 wr => ∃ pos i : Nat, v8 = .int .i64 (i : Int) ∧ Aside0 (UneAt wo s R gk pos i wr))
  case atStart => exact ⟨0, 0, rfl, ⟨{ rest := by rw [List.drop_zero]; exact HR.out, hi := Nat.zero_le _, hp := Nat.zero_le _, fuel := by omega, valid := by rw [List.drop_zero]; exact HV.out, bld := fresh_below (Below.refl _ _), below := below_fresh (Below.refl _ _), low := HLOW.out }⟩⟩
  case round =>
    obtain ⟨pos, i, rfl, H⟩ := hrel
    by_cases hi : i < R.size
    · have hlt : pos < s.size := by
        rcases Nat.lt_or_ge pos s.size with h | h
        · exact h
        · exfalso
          have h1 := H.out.rest
          have h2 : escTail 3 s gk pos = [] := by
            rcases gk with _ | f
            · rfl
            · unfold escTail; rw [if_neg (by omega)]
          rw [h2] at h1
          have := drop_end h1 H.out.hi
          omega
      obtain ⟨f, rfl⟩ : ∃ m, gk = m + 1 := ⟨gk - 1, by
        have := H.out.fuel
        have := H.out.hp
        rcases gk with _ | m
        · omega
        · rfl⟩
      have hrest := H.out.rest
      unfold escTail at hrest
      rw [if_pos hlt] at hrest
      have HB := Aside0.mk H.out.bld
      have hlen : (Lib.byteCells (s.data.toList.take pos)).length ≤ 200 := by rw [bytes_len, List.length_take, len_toList]; omega
      have HLEN := Aside0.mk hlen
      have hsz := H.out.below.size
      clear hlen
      by_cases hsmall : (Utf8.decode s pos).1 = 95 ∨ LegOk ((Utf8.decode s pos).1 : Int) pos true
      · have h128 : (Utf8.decode s pos).1 < 128 := by
          rcases hsmall with h | h
          · omega
          · have := legOk_lt h; omega
        have hone := decode_low s pos hlt h128
        obtain ⟨c, hc⟩ : ∃ c, (Utf8.decode s pos).1 = c := ⟨_, rfl⟩
        rw [hc] at hrest h128 hone hsmall
        have htake : Lib.byteCells (s.data.toList.take (pos + 1)) = Lib.byteCells (s.data.toList.take pos) ++ [.int .u8 (c : Int)] := take_one s pos hlt c hone.1
        by_cases h95 : c = 95
        · subst h95
          rw [show ((95 : Nat) : Int) = 95 from rfl, piece_us (by decide)] at hrest
          have a0 := at_drop hrest 0 (by simp)
          have a1 := at_drop hrest 1 (by simp)
          have hR0 : ∀ h : i < R.size, ((R[i]'h).toNat : Int) = 95 := fun h => by rw [bt_high R i h]; exact a0.2
          have hR1 : ∀ h : i + 1 < R.size, ((R[i + 1]'h).toNat : Int) = 95 := fun h => by rw [bt_high R (i + 1) h]; exact a1.2
          have l1 : i + 1 < R.size := a1.1
          have HD := Aside0.mk (drop_more hrest)
          have HT := Aside0.mk htake
          clear a0 a1 hrest htake hc
          go_wp2_with (go_at_call 82; refine (writeByte_calls wo.heap.size wo.heap.size _ _ _ HB.out (by have := HLEN.out; omega) hsz).mono ?_; rintro e2 w2 ⟨rfl, hw⟩)
          have HW := Aside0.mk hw
          clear hw
          go_wp2
          go_roundg f
          case measure => omega
          case rel => exact ⟨pos + 1, i + 2, by go_num, ⟨{ rest := by have := HD.out; rw [hone.2] at this; exact this, hi := by omega, hp := by omega, fuel := by have := H.out.fuel; omega, valid := by have := (rune_bytes s pos hlt H.out.valid).2; rw [hone.2] at this; exact this, bld := by rw [HT.out]; exact HW.out.is, below := H.out.below.trans HW.out.2.1, low := by have := (H.out.low hlt).2; rw [hone.2] at this; exact this }⟩⟩
        · by_cases hok : LegOk (c : Int) pos true
          · have hne : (c : Int) ≠ 95 := by omega
            rw [piece_leg (by decide) hne (leg_not46 hok) hok] at hrest
            have a0 := at_drop hrest 0 (by simp [oneB])
            have hv0 : ((oneB (c : Int))[0]'(by simp [oneB])).toNat = c := by
              show (UInt8.ofNat ((c : Int)).toNat).toNat = c
              rw [Int.toNat_natCast, UInt8.toNat_ofNat']; omega
            rw [hv0] at a0
            have hR0 : ∀ h : i < R.size, ((R[i]'h).toNat : Int) = (c : Int) := fun h => by rw [bt_high R i h]; exact a0.2
            have b95 : ((c : Int) != 95) = true := by simp; omega
            have HD := Aside0.mk (drop_more hrest)
            have HT := Aside0.mk htake
            clear a0 hrest htake hc hv0 hok hne h95
            go_wp2_with (go_at_call 82; refine (writeByte_calls wo.heap.size wo.heap.size _ _ _ HB.out (by have := HLEN.out; omega) hsz).mono ?_; rintro e2 w2 ⟨rfl, hw⟩)
            have HW := Aside0.mk hw
            clear hw
            go_wp2
            go_roundg f
            case measure => omega
            case rel => exact ⟨pos + 1, i + 1, by go_num, ⟨{ rest := by have := HD.out; rw [hone.2] at this; exact this, hi := by omega, hp := by omega, fuel := by have := H.out.fuel; omega, valid := by have := (rune_bytes s pos hlt H.out.valid).2; rw [hone.2] at this; exact this, bld := by rw [HT.out]; exact HW.out.is, below := H.out.below.trans HW.out.2.1, low := by have := (H.out.low hlt).2; rw [hone.2] at this; exact this }⟩⟩
          · exact absurd (hsmall.resolve_left h95) hok
      · have hc0 := (H.out.low hlt).1
        have hrb := rune_bytes s pos hlt H.out.valid
        have hwi := rune_within s pos hlt
        have hvr := rune_validAt s pos
        obtain ⟨c, hc⟩ : ∃ c, (Utf8.decode s pos).1 = c := ⟨_, rfl⟩
        obtain ⟨wd, hwd⟩ : ∃ wd, (Utf8.decode s pos).2 = wd := ⟨_, rfl⟩
        rw [hc] at hrest hc0 hrb hvr hsmall
        rw [hwd] at hrest hrb hwi
        have hn95 : (c : Int) ≠ 95 := fun h => hsmall (.inl (by omega))
        have hnok : ¬ LegOk (c : Int) pos true := fun h => hsmall (.inr h)
        rw [piece_no3 hn95 hnok, Int.toNat_natCast] at hrest
        have a0 := at_drop (l := [95] ++ (hexT c).data.toList ++ [95]) hrest 0 (by simp)
        have hR0 : ∀ h : i < R.size, ((R[i]'h).toNat : Int) = 95 := fun h => by rw [bt_high R i h]; exact a0.2
        have hx := hex_in (by omega) hrest
        have HX := Aside0.mk hx
        have HD := Aside0.mk (drop_more hrest)
        have hlen5 := hexL_short c hc0
        have hpos : 0 < (hexL c).length := hexL_pos c
        have b1 := (hx.1 0 hpos)
        have hd1 := hexL_dig c (by omega) _ (List.getElem_mem hpos)
        have l1 : i + 1 < R.size := b1.1
        obtain ⟨x1, hx1⟩ : ∃ x1, (hexL c)[0]'hpos = x1 := ⟨_, rfl⟩
        rw [hx1] at b1 hd1
        have hR1 : ∀ h : i + 1 < R.size, ((R[i + 1]'h).toNat : Int) = x1 := fun h => by rw [bt_high R (i + 1) h]; exact b1.2
        have e1 : (x1 == 95) = false := by unfold HexDig at hd1; simp; omega
        have HALL := Aside0.mk (And.intro hrb (And.intro hwi (And.intro hvr (And.intro hsmall (And.intro hlen5 (And.intro hpos hx1))))))
        have HWD := Aside0.mk (And.intro hwd (show 0 < wd by rw [← hwd]; exact Lib.width_pos s pos))
        clear hx hrest a0 b1 hd1 hrb hwi hvr hsmall hlen5 hn95 hnok hc hwd
        clear hx1
        have HI := Aside0.mk (show i + 1 < R.size from l1)
        go_wp2_with fail
        obtain ⟨wq, hwq⟩ : ∃ wq : World, wq = wr := ⟨_, rfl⟩
        subst hwq
        go_loopg [8, 9, 10] 7 (fun g2 v8 v9 v10 wz => ∃ m j : Nat, m ≤ (hexL c).length ∧ m + g2 = 7 ∧ j = i + 1 + m ∧ v8 = .int .i64 (j : Int) ∧ v9 = .int .u64 ((hexN ((hexL c).take m) : Nat) : Int) ∧ v10 = .int .i64 (m : Int) ∧ wq = wz)
        case atStart => exact ⟨0, i + 1, Nat.zero_le _, rfl, rfl, by go_num, rfl, rfl, rfl⟩
        case round =>
          obtain ⟨m, j, hml, hmg, hj, rfl, rfl, rfl, rfl⟩ := hrel
          have hlen5 : (hexL c).length ≤ 5 := HALL.out.2.2.2.2.1
          have hm5 : m ≤ 5 := by omega
          have m6 : (m : Int) < 6 := by omega
          by_cases hmm : m < (hexL c).length
          · obtain ⟨g3, rfl⟩ : ∃ q, gk = q + 1 := ⟨gk - 1, by omega⟩
            have b2 := HX.out.1 m hmm
            rw [show i + (1 + m) = j by omega] at b2
            have hd2 := hexL_dig c (by omega) _ (List.getElem_mem hmm)
            have hsn : hexN ((hexL c).take (m + 1)) = hexN ((hexL c).take m) * 16 + hexV ((hexL c)[m]'hmm) := by
              rw [List.take_add_one, List.getElem?_eq_getElem hmm]
              exact hexN_snoc _ _
            have hsm := hexN_small ((hexL c).take m) (fun x hx => hexL_dig c (by omega) x (List.mem_of_mem_take hx))
            have hpw : 16 ^ ((hexL c).take m).length ≤ 16 ^ 5 := Nat.pow_le_pow_right (by decide) (by rw [List.length_take]; omega)
            obtain ⟨x, hx⟩ : ∃ x, (hexL c)[m]'hmm = x := ⟨_, rfl⟩
            rw [hx] at b2 hd2 hsn
            obtain ⟨n, hn⟩ : ∃ n, hexN ((hexL c).take m) = n := ⟨_, rfl⟩
            rw [hn] at hsn hsm ⊢
            have hn5 : n < 1048576 := by have : (16 : Nat) ^ 5 = 1048576 := by decide
                                         omega
            have lj : j < R.size := b2.1
            have hRj : ∀ h : j < R.size, ((R[j]'h).toNat : Int) = x := fun h => by rw [bt_high R j h]; exact b2.2
            have e2 : (x == 95) = false := by unfold HexDig at hd2; simp; omega
            have HSN := Aside0.mk hsn
            have HMM := Aside0.mk hmm
            have HML := Aside0.mk hml
            clear hsn hsm hpw hn hx b2 hmm hml hlen5
            have HJ := Aside0.mk hj
            clear hj
            have hb : bits .or .u8 x 32 = x := by
              rcases hd2 with ⟨q1, q2⟩ | ⟨q1, q2⟩
              · rcases (show x = 48 ∨ x = 49 ∨ x = 50 ∨ x = 51 ∨ x = 52 ∨ x = 53 ∨ x = 54 ∨ x = 55 ∨ x = 56 ∨ x = 57 by omega) with h | h | h | h | h | h | h | h | h | h <;> (rw [h]; decide)
              · rcases (show x = 97 ∨ x = 98 ∨ x = 99 ∨ x = 100 ∨ x = 101 ∨ x = 102 by omega) with h | h | h | h | h | h <;> (rw [h]; decide)
            rcases hd2 with ⟨q1, q2⟩ | ⟨q1, q2⟩
            · have hv : (hexV x : Int) = x - 48 := by unfold hexV; rw [if_pos (by omega)]; omega
              have HVX := Aside0.mk hv
              clear hv
              go_wp2_with (go_at_call 83; go_in)
              go_roundg g3
              case measure => omega
              case rel => exact ⟨m + 1, j + 1, HMM.out, by omega, by have := HJ.out; omega, by go_num, by rw [HSN.out]; have := HVX.out; congr 1; omega, by go_num, rfl⟩
            · have hv : (hexV x : Int) = x - 97 + 10 := by unfold hexV; rw [if_neg (by omega)]; omega
              have HVX := Aside0.mk hv
              have d1 : decide (x ≤ 57) = false := decide_eq_false (by omega)
              clear hv
              go_wp2_with (go_at_call 83; go_in)
              go_roundg g3
              case measure => omega
              case rel => exact ⟨m + 1, j + 1, HMM.out, by omega, by have := HJ.out; omega, by go_num, by rw [HSN.out]; have := HVX.out; congr 1; omega, by go_num, rfl⟩
          · have hme : m = (hexL c).length := by omega
            have b2 := HX.out.2
            rw [show i + (1 + (hexL c).length) = j by omega] at b2
            have lj : j < R.size := b2.1
            have hRj : ∀ h : j < R.size, ((R[j]'h).toNat : Int) = 95 := fun h => by rw [bt_high R j h]; exact b2.2
            have hval : hexN ((hexL c).take m) = c := by rw [hme, List.take_length]; exact hexL_val c (by omega)
            rw [hval]
            have HME := Aside0.mk hme
            have HJ := Aside0.mk hj
            clear hval b2 hme hmm hml hlen5 hj
            go_wp2_with fail
            refine (Tryd.utf8_ValidRune (c : Int) _).mono ?_
            rintro e1 w1 ⟨rfl, hw1⟩
            subst hw1
            rw [HALL.out.2.2.1]
            go_wp2_with fail
            refine (writeRuneAny_calls wo.heap.size wo.heap.size _ (c : Int) (by omega) (by omega) _ HB.out (by have := HLEN.out; omega) hsz).mono ?_
            rintro e2 w2 ⟨⟨nn, rfl⟩, hw⟩
            have HW := Aside0.mk hw
            clear hw
            go_wp2_with fail
            have hln : ([95] ++ (hexT c).data.toList ++ [95]).length = (hexL c).length + 2 := by
              rw [List.length_append, List.length_append, hexT_length]
              simp only [List.length_singleton]
              omega
            have hjj := HJ.out
            have hmm := HME.out
            have hd := HD.out
            rw [hln] at hd
            have hlow := (H.out.low hlt).2
            have hal := HALL.out
            go_roundg f
            case measure => omega
            case rel =>
              refine ⟨pos + wd, j + 1, by go_num, ⟨{ rest := by rw [show j + 1 = i + ((hexL c).length + 2) by omega]; exact hd, hi := by omega, hp := hal.2.1, fuel := ?_, valid := hal.1.2, bld := by rw [hal.1.1]; exact HW.out.is, below := H.out.below.trans HW.out.2.1, low := ?_ }⟩⟩
              · have := H.out.fuel
                have := HWD.out.2
                omega
              · rw [HWD.out.1] at hlow
                exact hlow
    · have hiR : i = R.size := by have := H.out.hi; omega
      have hnil : R.data.toList.drop i = [] := by rw [hiR]; exact List.drop_of_length_le (by rw [len_toList]; exact Nat.le_refl _)
      have hps : pos = s.size := by
        have h1 := H.out.rest
        rw [hnil] at h1
        have h2 := H.out.fuel
        have h3 := H.out.hp
        rcases gk with _ | f
        · omega
        · unfold escTail at h1
          split at h1
          · rename_i h
            exact absurd (List.append_eq_nil_iff.1 h1.symm).1 (piece_ne 3 _ _)
          · omega
      have HS := Aside0.mk hps
      clear hiR hnil hps
      go_wp2_with (go_at_call 77; refine (Tryd.Builder_String_any_k wo.heap.size wo.heap.size _ _ H.out.bld H.out.below.size).mono ?_; rintro e3 w3 ⟨rfl, hib, hb3, hok3⟩)
      try rw [Exit.noGoto_ret]
      first | go_ret | (unfold Exit.inBlock; go_ret) | (simp only [Exit.inBlock]; go_ret)
      refine ⟨?_, H.out.below.trans hb3⟩
      rw [HS.out]
      have : s.data.toList.take s.size = s.data.toList := List.take_of_length_le (by rw [len_toList]; exact Nat.le_refl _)
      show Ending.returned (.string ⟨(s.data.toList.take s.size).toArray⟩) = _
      rw [this]
end Go.Proofs.YtaajhionmdjhjaaDoor
