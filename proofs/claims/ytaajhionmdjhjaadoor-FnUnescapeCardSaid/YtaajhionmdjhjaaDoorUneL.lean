/- The law FnUnescape, walked: whatever the text and the scheme, it answers true. -/
import Derived.Test.YtaajhionmdjhjaaDoorUneU
set_option linter.unusedVariables false
set_option linter.unusedSimpArgs false
namespace Go.Proofs.YtaajhionmdjhjaaDoor
open Go.RowKit

theorem pre_piece (s : ByteArray) (h : 2 < s.size) : ((s.extract 0 3).toList == [85, 95, 95]) = Lib.hasPrefix s.data.toList [85, 95, 95] := by
  have := Lib.occ_of_piece s ⟨#[85, 95, 95]⟩ 0 (by show 0 + 3 ≤ s.size; omega)
  rw [show 0 + (⟨#[85, 95, 95]⟩ : ByteArray).size = 3 from rfl] at this
  have e : (⟨#[85, 95, 95]⟩ : ByteArray).toList = [85, 95, 95] := by rw [ByteArray.toList_eq]
  rw [e] at this
  rw [← this]
  unfold Lib.occAt Lib.hasPrefix
  rw [List.drop_zero]
theorem pre_short (s : ByteArray) (h : ¬ 2 < s.size) : Lib.hasPrefix s.data.toList [85, 95, 95] = false := by
  cases hb : Lib.hasPrefix s.data.toList [85, 95, 95] with
  | false => rfl
  | true =>
    unfold Lib.hasPrefix at hb
    have h1 := (List.isPrefixOf_iff_prefix.1 hb).length_le
    rw [len_toList] at h1
    simp at h1
    omega
theorem lowFrom_end (s : ByteArray) : ∀ (f pos : Nat), ¬ pos < s.size → lowFrom s f pos
  | 0, _, _ => trivial
  | f + 1, pos, h => fun h' => absurd h' h
/-- The letter behind an 'a': a name by the older rules just if it may stand behind a first place. -/
theorem legB_behind (s : ByteArray) (i : Nat) (hi : i < s.size) : legB (⟨#[97]⟩ ++ s.extract i (i + 1)) true = true ↔ LegOk (bt s (i : Int)) 1 true := by
  have hd : (⟨#[97]⟩ ++ s.extract i (i + 1)).data.toList = [97, s[i]'hi] := by
    have h1 : (s.extract i (i + 1)).data.toList = [s[i]'hi] := by
      rw [Lib.extract_data, show i + 1 - i = 1 by omega]
      have hl : i < s.data.toList.length := by rw [len_toList]; exact hi
      rw [List.drop_eq_getElem_cons hl]
      rfl
    rw [ByteArray.data_append, Array.toList_append, h1]
    rfl
  have hsz : (⟨#[97]⟩ ++ s.extract i (i + 1)).size = 2 := by rw [← len_toList, hd]; rfl
  have b0 : bt (⟨#[97]⟩ ++ s.extract i (i + 1)) ((0 : Nat) : Int) = 97 := by
    have := at_drop (R := ⟨#[97]⟩ ++ s.extract i (i + 1)) (i := 0) (l := [97, s[i]'hi]) (rest := []) (by rw [List.drop_zero, hd]; rfl) 0 (by simp)
    exact this.2
  have b1 : bt (⟨#[97]⟩ ++ s.extract i (i + 1)) ((1 : Nat) : Int) = bt s (i : Int) := by
    have := at_drop (R := ⟨#[97]⟩ ++ s.extract i (i + 1)) (i := 0) (l := [97, s[i]'hi]) (rest := []) (by rw [List.drop_zero, hd]; rfl) 1 (by simp)
    exact this.2.trans (bt_high s i hi)
  constructor
  · intro h
    classical
    unfold legB at h
    have h' := (of_decide_eq_true h).2 1 (by omega)
    rw [b1] at h'
    exact h'
  · intro h
    refine legB_true ⟨by omega, fun j hj => ?_⟩
    rcases (show j = 0 ∨ j = 1 by omega) with rfl | rfl
    · rw [b0]; unfold LegOk; omega
    · rw [b1]; exact h

set_option maxHeartbeats 4000000 in
set_option maxRecDepth 100000 in
theorem unescAt3_calls (s : ByteArray) (hbig : s.size ≤ 200) (hv : Lib.validD s.data.toList = true) (hp : Lib.hasPrefix s.data.toList [85, 95, 95] = false) (x : Int) (hx0 : 0 ≤ x) (hx1 : x ≤ 255) (hxk : x % 4 = 3) (w : World) (hg : GlobE w) :
    Calls Tryd.prog 11 #[.string s, .int .u8 x] w fun e w' => e = .returned (.bool true) ∧ Below w.heap.size w w' := by
  have HG := Aside0.mk hg; clear hg
  have HV := Aside0.mk hv
  have HP := Aside0.mk hp
  have hs : s.size ≤ 2147483647 := by omega
  have hcase : (2 < s.size ∧ ((s.extract 0 3).toList == [85, 95, 95]) = false) ∨ ¬ 2 < s.size := by
    by_cases h2 : 2 < s.size
    · exact .inl ⟨h2, (pre_piece s h2).trans hp⟩
    · exact .inr h2
  clear hv hp
  rcases hcase with ⟨h2, hq⟩ | h2
  all_goals
    go_enter Tryd.func11, Tryd.ntmps11
    go_wp2_with fail
    refine (valid_calls s hs _ HG.out.glob.tabs).mono ?_
    rintro e w0 ⟨rfl, hb0⟩
    rw [HV.out]
    have HB0 := Aside0.mk hb0; clear hb0
    have HSZ0 := Aside0.mk HB0.out.size
    go_wp2_with fail
    go_loopg [7] (s.size + 1) (fun kq v7 w' => ∃ pos : Nat, s.size < pos + kq ∧ Aside0 (lowFrom s kq pos → lowFrom s (s.size + 1) 0) ∧ w' = w0.iter s pos)
    case atStart => exact ⟨0, by omega, ⟨id⟩, rfl⟩
    case round =>
      obtain ⟨pos, hik, HA, rfl⟩ := hrel
      by_cases hlt : pos < s.size
      · obtain ⟨g1, rfl⟩ : ∃ m, gk = m + 1 := ⟨gk - 1, by
          rcases gk with _ | m
          · omega
          · rfl⟩
        have hwd := Lib.width_pos s pos
        obtain ⟨c, wd, hc1, hwd1, HDC, hnx⟩ : ∃ (c : Int) (wd : Nat), c ≤ 1114111 ∧ 0 < wd ∧ Aside0 (((Utf8.decode s pos).1 : Int) = c ∧ (Utf8.decode s pos).2 = wd) ∧ ∀ ty, (Instr.next (.pointer (some ⟨w0.heap.size, 0, none⟩)) true ty).run Tryd.prog (w0.iter s pos) = .ok (.tuple #[.bool true, .int .i64 (pos : Int), .int .i32 c]) (w0.iter s (pos + wd)) :=
          ⟨((Utf8.decode s pos).1 : Int), (Utf8.decode s pos).2, by have := rune_ok s pos; omega, hwd, ⟨rfl, rfl⟩, fun ty => run_next_any (P := Tryd.prog) w0 s pos ty hlt⟩
        have HWD := Aside0.mk (And.intro hwd1 hik)
        clear hwd hwd1 hik hc1
        by_cases hc : c < 1048576
        · have hd : decide ((1048576 : Int) ≤ c) = false := decide_eq_false (by omega)
          have HC := Aside0.mk hc
          clear hc
          go_wp2_with fail
          go_roundg g1
          case measure => omega
          case rel => exact ⟨pos + wd, by have := HWD.out; omega, ⟨fun h => HA.out (fun _ => ⟨by have := HDC.out.1; have := HC.out; omega, by rw [HDC.out.2]; exact h⟩)⟩, rfl⟩
        · have hd : decide ((1048576 : Int) ≤ c) = true := decide_eq_true (by omega)
          clear hc
          have HB9 := Aside0.mk (show Below w.heap.size w (w0.iter s (pos + wd)) from HB0.out.alloc HSZ0.out _)
          go_wp2_with fail
          refine (awake_calls _ (HG.out.next HB9.out).glob.glob).mono ?_
          rintro e w1 ⟨rfl, hb1⟩
          have HB1 := Aside0.mk (below_step HB9.out hb1); clear hb1
          go_wp2
          go_ret
          exact ⟨rfl, HB1.out⟩
      · have HLOW := Aside0.mk (HA.out (lowFrom_end s gk pos hlt))
        have HB9 := Aside0.mk (show Below w.heap.size w (w0.iter s pos) from HB0.out.alloc HSZ0.out _)
        have hnx : ∀ ty, (Instr.next (.pointer (some ⟨w0.heap.size, 0, none⟩)) true ty).run Tryd.prog (w0.iter s pos) = .ok (.tuple #[.bool false]) (w0.iter s pos) := fun ty => run_next_end (P := Tryd.prog) w0 s pos ty hlt
        clear hlt
        go_wp2_with fail
        refine (implEscape_calls 3 (by omega) s hbig _ (HG.out.next HB9.out).ctz (HG.out.next HB9.out).glob.glob.size).mono ?_
        rintro e w1 ⟨rfl, hb1⟩
        have HB1 := Aside0.mk (below_step HB9.out hb1); clear hb1
        go_wp2_with fail
        refine (implUnescape_calls 3 (by omega) _ _ (unT_values s hbig HV.out HP.out HLOW.out) _).mono ?_
        rintro e w2 ⟨rfl, hb2⟩
        have HB2 := Aside0.mk (below_step HB1.out hb2); clear hb2
        go_wp2_with fail
        refine (awake_calls _ (HG.out.next HB2.out).glob.glob).mono ?_
        rintro e w3 ⟨rfl, hb3⟩
        have HB3 := Aside0.mk (below_step HB2.out hb3); clear hb3
        go_wp2
        go_ret
        exact ⟨rfl, HB3.out⟩

set_option maxHeartbeats 4000000 in
set_option maxRecDepth 100000 in
theorem unescAt01_calls (s : ByteArray) (hbig : s.size ≤ 200) (hv : Lib.validD s.data.toList = true) (hp : Lib.hasPrefix s.data.toList [85, 95, 95] = false) (x : Int) (hx0 : 0 ≤ x) (hx1 : x ≤ 255) (k : Nat) (hk1 : k ≤ 1) (hxk : x % 4 = (k : Int)) (w : World) (hg : GlobE w) :
    Calls Tryd.prog 11 #[.string s, .int .u8 x] w fun e w' => e = .returned (.bool true) ∧ Below w.heap.size w w' := by
  have HG := Aside0.mk hg; clear hg
  have HV := Aside0.mk hv
  have HP := Aside0.mk hp
  have hs : s.size ≤ 2147483647 := by omega
  have hcase : (2 < s.size ∧ ((s.extract 0 3).toList == [85, 95, 95]) = false) ∨ ¬ 2 < s.size := by
    by_cases h2 : 2 < s.size
    · exact .inl ⟨h2, (pre_piece s h2).trans hp⟩
    · exact .inr h2
  clear hv hp
  rcases hcase with ⟨h2, hq⟩ | h2
  all_goals
    go_enter Tryd.func11, Tryd.ntmps11
    go_wp2_with fail
    refine (valid_calls s hs _ HG.out.glob.tabs).mono ?_
    rintro e w0 ⟨rfl, hb0⟩
    rw [HV.out]
    have HB0 := Aside0.mk hb0; clear hb0
    have HSZ0 := Aside0.mk HB0.out.size
    go_wp2_with fail
    go_loopg [7] (s.size + 1) (fun kq v7 w' => ∃ pos : Nat, s.size < pos + kq ∧ Aside0 (lowFrom s kq pos → lowFrom s (s.size + 1) 0) ∧ w' = w0.iter s pos)
    case atStart => exact ⟨0, by omega, ⟨id⟩, rfl⟩
    case round =>
      obtain ⟨pos, hik, HA, rfl⟩ := hrel
      by_cases hlt : pos < s.size
      · obtain ⟨g1, rfl⟩ : ∃ m, gk = m + 1 := ⟨gk - 1, by
          rcases gk with _ | m
          · omega
          · rfl⟩
        have hwd := Lib.width_pos s pos
        obtain ⟨c, wd, hc1, hwd1, HDC, hnx⟩ : ∃ (c : Int) (wd : Nat), c ≤ 1114111 ∧ 0 < wd ∧ Aside0 (((Utf8.decode s pos).1 : Int) = c ∧ (Utf8.decode s pos).2 = wd) ∧ ∀ ty, (Instr.next (.pointer (some ⟨w0.heap.size, 0, none⟩)) true ty).run Tryd.prog (w0.iter s pos) = .ok (.tuple #[.bool true, .int .i64 (pos : Int), .int .i32 c]) (w0.iter s (pos + wd)) :=
          ⟨((Utf8.decode s pos).1 : Int), (Utf8.decode s pos).2, by have := rune_ok s pos; omega, hwd, ⟨rfl, rfl⟩, fun ty => run_next_any (P := Tryd.prog) w0 s pos ty hlt⟩
        have HWD := Aside0.mk (And.intro hwd1 hik)
        clear hwd hwd1 hik hc1
        by_cases hc : c < 1048576
        · have hd : decide ((1048576 : Int) ≤ c) = false := decide_eq_false (by omega)
          have HC := Aside0.mk hc
          clear hc
          go_wp2_with fail
          go_roundg g1
          case measure => omega
          case rel => exact ⟨pos + wd, by have := HWD.out; omega, ⟨fun h => HA.out (fun _ => ⟨by have := HDC.out.1; have := HC.out; omega, by rw [HDC.out.2]; exact h⟩)⟩, rfl⟩
        · have hd : decide ((1048576 : Int) ≤ c) = true := decide_eq_true (by omega)
          clear hc
          have HB9 := Aside0.mk (show Below w.heap.size w (w0.iter s (pos + wd)) from HB0.out.alloc HSZ0.out _)
          go_wp2_with fail
          refine (awake_calls _ (HG.out.next HB9.out).glob.glob).mono ?_
          rintro e w1 ⟨rfl, hb1⟩
          have HB1 := Aside0.mk (below_step HB9.out hb1); clear hb1
          go_wp2
          go_ret
          exact ⟨rfl, HB1.out⟩
      · have HLOW := Aside0.mk (HA.out (lowFrom_end s gk pos hlt))
        have HB9 := Aside0.mk (show Below w.heap.size w (w0.iter s pos) from HB0.out.alloc HSZ0.out _)
        have hnx : ∀ ty, (Instr.next (.pointer (some ⟨w0.heap.size, 0, none⟩)) true ty).run Tryd.prog (w0.iter s pos) = .ok (.tuple #[.bool false]) (w0.iter s pos) := fun ty => run_next_end (P := Tryd.prog) w0 s pos ty hlt
        clear hlt
        go_wp2_with fail
        refine (implEscape_calls k (by omega) s hbig _ (HG.out.next HB9.out).ctz (HG.out.next HB9.out).glob.glob.size).mono ?_
        rintro e w1 ⟨rfl, hb1⟩
        have HB1 := Aside0.mk (below_step HB9.out hb1); clear hb1
        go_wp2_with fail
        refine (implUnescape_calls k (by omega) _ _ (unT_same k hk1 _) _).mono ?_
        rintro e w2 ⟨rfl, hb2⟩
        have HB2 := Aside0.mk (below_step HB1.out hb2); clear hb2
        have hk2 : ((k : Int) == 2) = false := beq_eq_false_iff_ne.2 (by omega)
        have hkk : k = 0 ∨ k = 1 := by omega
        rcases hkk with rfl | rfl
        all_goals
          go_wp2_with fail
          refine (awake_calls _ (HG.out.next HB2.out).glob.glob).mono ?_
          rintro e w3 ⟨rfl, hb3⟩
          have HB3 := Aside0.mk (below_step HB2.out hb3); clear hb3
          go_wp2_with fail
          refine (implUnescape_calls _ (by omega) _ _ (unT_same _ hk1 s) _).mono ?_
          rintro e w4 ⟨rfl, hb4⟩
          have HB4 := Aside0.mk (below_step HB3.out hb4); clear hb4
          go_wp2
          go_ret
          exact ⟨rfl, HB4.out⟩

set_option maxHeartbeats 4000000 in
set_option maxRecDepth 100000 in
theorem unescAt2_calls (s : ByteArray) (hbig : s.size ≤ 200) (hv : Lib.validD s.data.toList = true) (hp : Lib.hasPrefix s.data.toList [85, 95, 95] = false) (x : Int) (hx0 : 0 ≤ x) (hx1 : x ≤ 255) (hxk : x % 4 = 2) (w : World) (hg : GlobE w) :
    Calls Tryd.prog 11 #[.string s, .int .u8 x] w fun e w' => e = .returned (.bool true) ∧ Below w.heap.size w w' := by
  have HG := Aside0.mk hg; clear hg
  have HV := Aside0.mk hv
  have HP := Aside0.mk hp
  have hs : s.size ≤ 2147483647 := by omega
  have hcase : (2 < s.size ∧ ((s.extract 0 3).toList == [85, 95, 95]) = false) ∨ ¬ 2 < s.size := by
    by_cases h2 : 2 < s.size
    · exact .inl ⟨h2, (pre_piece s h2).trans hp⟩
    · exact .inr h2
  clear hv hp
  rcases hcase with ⟨h2, hq⟩ | h2
  all_goals
    go_enter Tryd.func11, Tryd.ntmps11
    go_wp2_with fail
    refine (valid_calls s hs _ HG.out.glob.tabs).mono ?_
    rintro e w0 ⟨rfl, hb0⟩
    rw [HV.out]
    have HB0 := Aside0.mk hb0; clear hb0
    have HSZ0 := Aside0.mk HB0.out.size
    go_wp2_with fail
    go_loopg [7] (s.size + 1) (fun kq v7 w' => ∃ pos : Nat, s.size < pos + kq ∧ Aside0 (lowFrom s kq pos → lowFrom s (s.size + 1) 0) ∧ w' = w0.iter s pos)
    case atStart => exact ⟨0, by omega, ⟨id⟩, rfl⟩
    case round =>
      obtain ⟨pos, hik, HA, rfl⟩ := hrel
      by_cases hlt : pos < s.size
      · obtain ⟨g1, rfl⟩ : ∃ m, gk = m + 1 := ⟨gk - 1, by
          rcases gk with _ | m
          · omega
          · rfl⟩
        have hwd := Lib.width_pos s pos
        obtain ⟨c, wd, hc1, hwd1, HDC, hnx⟩ : ∃ (c : Int) (wd : Nat), c ≤ 1114111 ∧ 0 < wd ∧ Aside0 (((Utf8.decode s pos).1 : Int) = c ∧ (Utf8.decode s pos).2 = wd) ∧ ∀ ty, (Instr.next (.pointer (some ⟨w0.heap.size, 0, none⟩)) true ty).run Tryd.prog (w0.iter s pos) = .ok (.tuple #[.bool true, .int .i64 (pos : Int), .int .i32 c]) (w0.iter s (pos + wd)) :=
          ⟨((Utf8.decode s pos).1 : Int), (Utf8.decode s pos).2, by have := rune_ok s pos; omega, hwd, ⟨rfl, rfl⟩, fun ty => run_next_any (P := Tryd.prog) w0 s pos ty hlt⟩
        have HWD := Aside0.mk (And.intro hwd1 hik)
        clear hwd hwd1 hik hc1
        by_cases hc : c < 1048576
        · have hd : decide ((1048576 : Int) ≤ c) = false := decide_eq_false (by omega)
          have HC := Aside0.mk hc
          clear hc
          go_wp2_with fail
          go_roundg g1
          case measure => omega
          case rel => exact ⟨pos + wd, by have := HWD.out; omega, ⟨fun h => HA.out (fun _ => ⟨by have := HDC.out.1; have := HC.out; omega, by rw [HDC.out.2]; exact h⟩)⟩, rfl⟩
        · have hd : decide ((1048576 : Int) ≤ c) = true := decide_eq_true (by omega)
          clear hc
          have HB9 := Aside0.mk (show Below w.heap.size w (w0.iter s (pos + wd)) from HB0.out.alloc HSZ0.out _)
          go_wp2_with fail
          refine (awake_calls _ (HG.out.next HB9.out).glob.glob).mono ?_
          rintro e w1 ⟨rfl, hb1⟩
          have HB1 := Aside0.mk (below_step HB9.out hb1); clear hb1
          go_wp2
          go_ret
          exact ⟨rfl, HB1.out⟩
      · have HLOW := Aside0.mk (HA.out (lowFrom_end s gk pos hlt))
        have HB9 := Aside0.mk (show Below w.heap.size w (w0.iter s pos) from HB0.out.alloc HSZ0.out _)
        have hnx : ∀ ty, (Instr.next (.pointer (some ⟨w0.heap.size, 0, none⟩)) true ty).run Tryd.prog (w0.iter s pos) = .ok (.tuple #[.bool false]) (w0.iter s pos) := fun ty => run_next_end (P := Tryd.prog) w0 s pos ty hlt
        clear hlt
        go_wp2_with fail
        refine (implEscape_calls 2 (by omega) s hbig _ (HG.out.next HB9.out).ctz (HG.out.next HB9.out).glob.glob.size).mono ?_
        rintro e w1 ⟨rfl, hb1⟩
        have HB1 := Aside0.mk (below_step HB9.out hb1); clear hb1
        go_wp2_with fail
        refine (implUnescape_calls 2 (by omega) _ _ (unT_dots _ (by have := escOut_size 2 s hbig; omega)) _).mono ?_
        rintro e w2 ⟨rfl, hb2⟩
        have HB2 := Aside0.mk (below_step HB1.out hb2); clear hb2
        go_wp2_with fail
        have HB2S := Aside0.mk HB2.out.size
        go_loopg [10] (s.size + 1) (fun kq v10 w' => ∃ i : Nat, v10 = .int .i64 (i : Int) ∧ i + kq = s.size + 1 ∧ i ≤ s.size ∧ Aside0 (∀ j : Nat, j < i → bt s (j : Int) ≠ 95 ∧ (bt s (j : Int) = 46 ∨ LegOk (bt s (j : Int)) j true)) ∧ Aside0 (Below w.heap.size w w'))
        case atStart => exact ⟨0, rfl, by omega, by omega, ⟨fun j hj => by omega⟩, HB2⟩
        case round =>
          obtain ⟨i, rfl, hik, hile, HA, HBW⟩ := hrel
          by_cases hlt : i < s.size
          · obtain ⟨g1, rfl⟩ : ∃ m, gk = m + 1 := ⟨gk - 1, by omega⟩
            have hxi : ∀ h : i < s.size, ((s[i]'h).toNat : Int) = bt s (i : Int) := fun h => bt_high s i h
            have hri := bt_range s (i : Int)
            have HLB := Aside0.mk (legB_behind s i hlt)
            have k2 : (i : Int) ≤ (i : Int) + 1 := by omega
            have k3 : (i : Int) + 1 ≤ (s.size : Int) := by omega
            by_cases h95 : bt s (i : Int) = 95
            · have c1 : (bt s (i : Int) == 95) = true := by simp [h95]
              clear h95 hri
              go_wp2_with fail
              refine (awake_calls _ (HG.out.next HBW.out).glob.glob).mono ?_
              rintro e wa ⟨rfl, hba⟩
              have HBA := Aside0.mk (below_step HBW.out hba); clear hba
              go_wp2
              go_ret
              exact ⟨rfl, HBA.out⟩
            · have c1 : (bt s (i : Int) == 95) = false := by simp [h95]
              by_cases h46 : bt s (i : Int) = 46
              · have c2 : (bt s (i : Int) != 46) = false := by simp [h46]
                have d1 : decide (48 ≤ bt s (i : Int)) = false := decide_eq_false (by omega)
                have HD := Aside0.mk (show bt s (i : Int) ≠ 95 ∧ (bt s (i : Int) = 46 ∨ LegOk (bt s (i : Int)) i true) from ⟨h95, .inl h46⟩)
                clear h95 h46 hri
                obtain ⟨z, hz⟩ : ∃ z : Bool, ((i : Int) == 0) = z := ⟨_, rfl⟩
                cases z
                all_goals
                  go_wp2_with fail
                  go_roundg g1
                  case measure => omega
                  case rel =>
                    exact ⟨i + 1, by go_num, by omega, by omega, ⟨fun j hj => by
                      rcases Nat.lt_or_ge j i with h | h
                      · exact HA.out j h
                      · obtain rfl : j = i := by omega
                        exact HD.out⟩, HBW⟩
              · have c2 : (bt s (i : Int) != 46) = true := by simp [h46]
                obtain ⟨b, hb⟩ : ∃ b : Bool, legB (⟨#[97]⟩ ++ s.extract i (i + 1)) true = b := ⟨_, rfl⟩
                have hsz2 : (⟨#[97]⟩ ++ s.extract i (i + 1)).size ≤ 2147483647 := by
                  rw [ByteArray.size_append, ByteArray.size_extract]
                  show 1 + _ ≤ _
                  omega
                have HSZ2 := Aside0.mk hsz2
                clear hsz2
                have HBL := Aside0.mk hb
                cases b with
                | false =>
                  clear hb h95 h46 hri
                  go_wp2_with fail
                  refine Calls.mono (legacy_true _ ?hsz _) ?_
                  case hsz => exact HSZ2.out
                  rintro e w4 ⟨rfl, hb4⟩
                  rw [HBL.out]
                  have HB4 := Aside0.mk (below_step HBW.out hb4); clear hb4
                  go_wp2_with fail
                  refine (awake_calls _ (HG.out.next HB4.out).glob.glob).mono ?_
                  rintro e wa ⟨rfl, hba⟩
                  have HBA := Aside0.mk (below_step HB4.out hba); clear hba
                  go_wp2
                  go_ret
                  exact ⟨rfl, HBA.out⟩
                | true =>
                  have hok : LegOk (bt s (i : Int)) 1 true := HLB.out.1 hb
                  clear hb
                  obtain ⟨z, hz⟩ : ∃ z : Bool, ((i : Int) == 0) = z := ⟨_, rfl⟩
                  cases z with
                  | false =>
                    have HD := Aside0.mk (show bt s (i : Int) ≠ 95 ∧ (bt s (i : Int) = 46 ∨ LegOk (bt s (i : Int)) i true) from ⟨h95, .inr (legOk_up hok (by have := beq_eq_false_iff_ne.1 hz; omega))⟩)
                    clear h95 h46 hri hok
                    go_wp2_with fail
                    refine Calls.mono (legacy_true _ ?hsz _) ?_
                    case hsz => exact HSZ2.out
                    rintro e w4 ⟨rfl, hb4⟩
                    rw [HBL.out]
                    have HB4 := Aside0.mk (below_step HBW.out hb4); clear hb4
                    go_wp2_with fail
                    go_roundg g1
                    case measure => omega
                    case rel =>
                      exact ⟨i + 1, by go_num, by omega, by omega, ⟨fun j hj => by
                        rcases Nat.lt_or_ge j i with h | h
                        · exact HA.out j h
                        · obtain rfl : j = i := by omega
                          exact HD.out⟩, HB4⟩
                  | true =>
                    by_cases hdig : 48 ≤ bt s (i : Int) ∧ bt s (i : Int) ≤ 57
                    · have d1 : decide (48 ≤ bt s (i : Int)) = true := decide_eq_true hdig.1
                      have d2 : decide (bt s (i : Int) ≤ 57) = true := decide_eq_true hdig.2
                      clear h95 h46 hri hok hdig
                      go_wp2_with fail
                      refine Calls.mono (legacy_true _ ?hsz _) ?_
                      case hsz => exact HSZ2.out
                      rintro e w4 ⟨rfl, hb4⟩
                      rw [HBL.out]
                      have HB4 := Aside0.mk (below_step HBW.out hb4); clear hb4
                      go_wp2_with fail
                      refine (awake_calls _ (HG.out.next HB4.out).glob.glob).mono ?_
                      rintro e wa ⟨rfl, hba⟩
                      have HBA := Aside0.mk (below_step HB4.out hba); clear hba
                      go_wp2
                      go_ret
                      exact ⟨rfl, HBA.out⟩
                    · have HD := Aside0.mk (show bt s (i : Int) ≠ 95 ∧ (bt s (i : Int) = 46 ∨ LegOk (bt s (i : Int)) i true) from ⟨h95, .inr (by
                        rcases hok with h | h | h | h | h
                        · exact .inl h
                        · exact .inr (.inl h)
                        · exact .inr (.inr (.inl h))
                        · exact .inr (.inr (.inr (.inl h)))
                        · exact absurd ⟨h.1, h.2.1⟩ hdig)⟩)
                      rcases (show bt s (i : Int) < 48 ∨ (48 ≤ bt s (i : Int) ∧ 57 < bt s (i : Int)) by omega) with hd | ⟨hd, hd'⟩
                      · have d1 : decide (48 ≤ bt s (i : Int)) = false := decide_eq_false (by omega)
                        clear h95 h46 hri hok hdig hd
                        go_wp2_with fail
                        refine Calls.mono (legacy_true _ ?hsz _) ?_
                        case hsz => exact HSZ2.out
                        rintro e w4 ⟨rfl, hb4⟩
                        rw [HBL.out]
                        have HB4 := Aside0.mk (below_step HBW.out hb4); clear hb4
                        go_wp2_with fail
                        go_roundg g1
                        case measure => omega
                        case rel =>
                          exact ⟨i + 1, by go_num, by omega, by omega, ⟨fun j hj => by
                            rcases Nat.lt_or_ge j i with h | h
                            · exact HA.out j h
                            · obtain rfl : j = i := by omega
                              exact HD.out⟩, HB4⟩
                      · have d1 : decide (48 ≤ bt s (i : Int)) = true := decide_eq_true hd
                        have d2 : decide (bt s (i : Int) ≤ 57) = false := decide_eq_false (by omega)
                        clear h95 h46 hri hok hdig hd hd'
                        go_wp2_with fail
                        refine Calls.mono (legacy_true _ ?hsz _) ?_
                        case hsz => exact HSZ2.out
                        rintro e w4 ⟨rfl, hb4⟩
                        rw [HBL.out]
                        have HB4 := Aside0.mk (below_step HBW.out hb4); clear hb4
                        go_wp2_with fail
                        go_roundg g1
                        case measure => omega
                        case rel =>
                          exact ⟨i + 1, by go_num, by omega, by omega, ⟨fun j hj => by
                            rcases Nat.lt_or_ge j i with h | h
                            · exact HA.out j h
                            · obtain rfl : j = i := by omega
                              exact HD.out⟩, HB4⟩
          · have HDD := Aside0.mk (show DotOk s from fun j hj => HA.out j (by omega))
            clear hik hile
            go_wp2_with fail
            refine (awake_calls _ (HG.out.next HBW.out).glob.glob).mono ?_
            rintro e w3 ⟨rfl, hb3⟩
            have HB3 := Aside0.mk (below_step HBW.out hb3); clear hb3
            rw [undot_back s HDD.out]
            go_wp2
            go_ret
            exact ⟨rfl, HB3.out⟩


set_option maxHeartbeats 1000000 in
set_option maxRecDepth 100000 in
theorem unescLaw_calls (s : ByteArray) (hm : s.size ≤ maxLen) (x : Int) (hx0 : 0 ≤ x) (hx1 : x ≤ 255) (w : World) (hg : GlobE w) :
    Calls Tryd.prog 11 #[.string s, .int .u8 x] w fun e w' => e = .returned (.bool true) ∧ Below w.heap.size w w' := by
  have HG := Aside0.mk hg; clear hg
  unfold maxLen at hm
  by_cases hm2 : 2147483647 < s.size
  · go_enter Tryd.func11, Tryd.ntmps11
    go_wp2
    go_ret
    exact ⟨rfl, Below.refl _ _⟩
  · by_cases hbig : s.size ≤ 200
    · have hs : s.size ≤ 2147483647 := by omega
      cases hv : Lib.validD s.data.toList with
      | false =>
        have HV := Aside0.mk hv
        clear hv
        go_enter Tryd.func11, Tryd.ntmps11
        go_wp2_with fail
        refine (valid_calls s hs _ HG.out.glob.tabs).mono ?_
        rintro e w0 ⟨rfl, hb0⟩
        rw [HV.out]
        have HB0 := Aside0.mk hb0; clear hb0
        go_wp2_with fail
        refine (awake_calls _ (HG.out.next HB0.out).glob.glob).mono ?_
        rintro e w1 ⟨rfl, hb1⟩
        have HB1 := Aside0.mk (below_step HB0.out hb1); clear hb1
        go_wp2
        go_ret
        exact ⟨rfl, HB1.out⟩
      | true =>
        cases hp : Lib.hasPrefix s.data.toList [85, 95, 95] with
        | true =>
          have HV := Aside0.mk hv
          have h2 : 2 < s.size := by
            rcases Nat.lt_or_ge 2 s.size with h | h
            · exact h
            · have := pre_short s (by omega)
              rw [hp] at this
              cases this
          have hq := (pre_piece s h2).trans hp
          clear hp hv
          go_enter Tryd.func11, Tryd.ntmps11
          go_wp2_with fail
          refine (valid_calls s hs _ HG.out.glob.tabs).mono ?_
          rintro e w0 ⟨rfl, hb0⟩
          rw [HV.out]
          have HB0 := Aside0.mk hb0; clear hb0
          go_wp2_with fail
          refine (awake_calls _ (HG.out.next HB0.out).glob.glob).mono ?_
          rintro e w1 ⟨rfl, hb1⟩
          have HB1 := Aside0.mk (below_step HB0.out hb1); clear hb1
          go_wp2
          go_ret
          exact ⟨rfl, HB1.out⟩
        | false =>
          rcases (show x % 4 = 0 ∨ x % 4 = 1 ∨ x % 4 = 2 ∨ x % 4 = 3 by omega) with h | h | h | h
          · exact unescAt01_calls s hbig hv hp x hx0 hx1 0 (by omega) h w HG.out
          · exact unescAt01_calls s hbig hv hp x hx0 hx1 1 (by omega) h w HG.out
          · exact unescAt2_calls s hbig hv hp x hx0 hx1 h w HG.out
          · exact unescAt3_calls s hbig hv hp x hx0 hx1 h w HG.out
    · go_enter Tryd.func11, Tryd.ntmps11
      go_wp2_with (go_at_call 12; refine (awake_calls _ HG.out.glob.glob).mono ?_; rintro e w1 ⟨rfl, hb⟩)
      go_ret
      exact ⟨rfl, hb⟩
end Go.Proofs.YtaajhionmdjhjaaDoor
