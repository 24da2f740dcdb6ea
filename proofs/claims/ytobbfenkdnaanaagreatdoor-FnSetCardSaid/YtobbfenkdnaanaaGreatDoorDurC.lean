/- Durations: ParseDuration by its contract. -/
import Derived.Test.YtobbfenkdnaanaaGreatDoorDurB
import Derived.Test.YtobbfenkdnaanaaGreatDoorWords
set_option linter.unusedVariables false
set_option linter.unusedSimpArgs false
namespace Go.Proofs.YtobbfenkdnaanaaGreatDoor
open Go.RowKit

/-- What ParseDuration answers. -/
def ParsePost (l : List UInt8) (w : World) (e : Ending) (w' : World) : Prop :=
  (match Dur.parse l with
    | some n => e = .returned (.tuple #[.int .i64 (n : Int), .nilIface])
    | none => ∃ v, IsErr v ∧ e = .returned (.tuple #[.int .i64 0, v])) ∧ Below w.heap.size w w'
/-- The same of what is left in a round. -/
def RoundPost (R : Option Nat) (w : World) (e : Ending) (w' : World) : Prop :=
  (match R with
    | some n => e = .returned (.tuple #[.int .i64 (n : Int), .nilIface])
    | none => ∃ v, IsErr v ∧ e = .returned (.tuple #[.int .i64 0, v])) ∧ Below w.heap.size w w'

/-- A digit, as a number. -/
def digI (c : Int) : Bool := decide (48 ≤ c ∧ c ≤ 57)
theorem dig_at (r : ByteArray) (i : Nat) (h : i < r.data.toList.length) : Dur.isDig (r.data.toList[i]) = digI (bt r (i : Int)) := by
  have h' : i < r.size := by rw [Array.length_toList] at h; exact h
  have e : bt r (i : Int) = ((r.data.toList[i]).toNat : Int) := by rw [← bt_at r (i : Int) (by simpa using h')]; simp; rfl
  rw [e]
  unfold Dur.isDig digI
  rw [Bool.eq_iff_iff]
  simp [UInt8.le_iff_toNat_le]
  omega
theorem drop_data (q : ByteArray) (m : Nat) : (q.extract m q.size).data.toList = q.data.toList.drop m := by
  rw [Lib.extract_data, List.take_of_length_le (by rw [List.length_drop, Array.length_toList]; exact Nat.le_refl _)]
theorem len_toList (r : ByteArray) : r.data.toList.length = r.size := by rw [Array.length_toList]; rfl
set_option maxRecDepth 100000 in
theorem isdigit_calls (c : Int) (w : World) (h0 : 0 ≤ c) (h1 : c ≤ 255) : Calls Tryz.prog 176 #[.int .u8 c] w fun e w' => e = .returned (.bool (digI c)) ∧ w = w' := by
  by_cases a : 48 ≤ c
  · by_cases b : c ≤ 57
    · have hd := Lib.hid (show digI c = true by simp [digI, a, b])
      go_enter Tryz.func176, Tryz.ntmps176
      go_wp2
      go_ret
      exact ⟨by rw [hd.out]; simp [b], rfl⟩
    · have hd := Lib.hid (show digI c = false by simp [digI, b])
      go_enter Tryz.func176, Tryz.ntmps176
      go_wp2
      go_ret
      exact ⟨by rw [hd.out]; simp [b], rfl⟩
  · have hd := Lib.hid (show digI c = false by simp [digI, a])
    go_enter Tryz.func176, Tryz.ntmps176
    go_wp2
    go_ret
    exact ⟨by rw [hd.out]; rfl, rfl⟩
set_option maxHeartbeats 4000000 in
set_option maxRecDepth 100000 in
theorem parseDur_calls (s : ByteArray) (hs : s.size ≤ 281474976710656) (w : World) (hg : Glob w) :
    Calls Tryz.prog 111 #[.string s] w (ParsePost s.data.toList w) := by
  have HG := Aside0.mk hg; clear hg
  by_cases h0 : s.toList = [48]
  · have b0 : (s.toList == [48]) = true := beq_iff_eq.mpr h0
    have HP := Aside0.mk (show Dur.parse s.data.toList = some 0 by rw [← ByteArray.toList_eq, h0]; rfl)
    clear h0
    go_enter Tryz.func111, Tryz.ntmps111
    go_wp2
    go_ret2
    exact ⟨by rw [HP.out]; rfl, Below.refl _ _⟩
  have b0 : (s.toList == [48]) = false := beq_eq_false_iff_ne.mpr h0
  by_cases h1 : s.toList = []
  · have b1 : (s.toList == []) = true := beq_iff_eq.mpr h1
    have HP := Aside0.mk (show Dur.parse s.data.toList = none by rw [← ByteArray.toList_eq, h1]; rfl)
    clear h0 h1
    go_enter Tryz.func111, Tryz.ntmps111
    go_wp2_with (go_at_call 118; refine (new_calls _ _).mono ?_; rintro e w1 ⟨v, rfl, hv, hb⟩)
    go_ret2
    exact ⟨by rw [HP.out]; exact ⟨_, hv, rfl⟩, hb⟩
  have b1 : (s.toList == []) = false := beq_eq_false_iff_ne.mpr h1
  have HP := Aside0.mk (show Dur.parse s.data.toList = Dur.rounds (s.size + 1) 0 0 s.data.toList by
    rw [ByteArray.toList_eq] at h0 h1; rw [Dur.parse, if_neg h0, if_neg h1, Array.length_toList]; rfl)
  clear h0 h1
  go_enter Tryz.func111, Tryz.ntmps111
  go_wp2_with fail
  go_loopg [0, 4, 5] (s.size + 1) (fun kq v0 v4 v5 w' => ∃ (r : ByteArray) (dur last : Nat), v0 = .string r ∧ v4 = .int .u64 (dur : Int) ∧ v5 = .int .i64 (last : Int) ∧ r.size < kq ∧ r.size ≤ 281474976710656 ∧ dur ≤ 9223372036854775807 ∧ last ≤ 7 ∧ Aside0 (Dur.rounds kq dur last r.data.toList = Dur.parse s.data.toList) ∧ Aside0 (Glob w') ∧ Aside0 (Below w.heap.size w w'))
  case atStart => exact ⟨s, 0, 0, rfl, rfl, rfl, by omega, hs, by omega, by omega, ⟨HP.out.symm⟩, HG, ⟨Below.refl _ _⟩⟩
  case round =>
    obtain ⟨r, dur, last, rfl, rfl, rfl, hlt, hle, hdur, hlast, HA, HG, HB⟩ := hrel
    obtain ⟨k, rfl⟩ : ∃ m, gk = m + 1 := ⟨gk - 1, by omega⟩
    by_cases hr : r.toList = []
    · have c0 : r.toList.isEmpty = true := by rw [hr]; rfl
      have HP := Aside0.mk (show Dur.parse s.data.toList = some dur by rw [← HA.out, ← ByteArray.toList_eq, hr]; rfl)
      clear hr b0 b1
      go_wp2_with fail
      go_ret2
      exact ⟨by rw [HP.out]; rfl, HB.out⟩
    · have c0 : r.toList.isEmpty = false := by simpa using hr
      have hpos : 0 < r.size := by
        rcases Nat.eq_zero_or_pos r.size with h | h
        · exact absurd (by rw [ByteArray.toList_eq]; exact List.eq_nil_of_length_eq_zero (by rw [Array.length_toList]; exact h)) hr
        · exact h
      have hne : r.data.toList ≠ [] := by rw [← ByteArray.toList_eq]; exact hr
      clear hr b0 b1
      have hx0 : ∀ h : 0 < r.size, ((r[0]'h).toNat : Int) = bt r 0 := bt_at r 0
      have hr0 := bt_range r 0
      by_cases hd : digI (bt r 0) = true
      · go_wp2_with (go_at_call 176; refine (isdigit_calls _ _ (by omega) (by omega)).mono ?_; rintro e w' ⟨rfl, rfl⟩)
        have HD0 := Aside0.mk hd; clear hd hx0 hr0
        go_loopg [6] (r.size + 1) (fun kq v6 w' => ∃ i : Nat, v6 = .int .i64 (i : Int) ∧ i + kq = r.size + 1 ∧ i ≤ r.size ∧ w' = wr ∧ Aside0 (∀ j (hj : j < r.data.toList.length), j < i → Dur.isDig (r.data.toList[j]) = true))
        case atStart => exact ⟨0, rfl, by omega, by omega, rfl, ⟨fun j _ h => by omega⟩⟩
        case round =>
          obtain ⟨i, rfl, hik, hile, rfl, HI⟩ := hrel
          obtain ⟨g1, rfl⟩ : ∃ m, gk = m + 1 := ⟨gk - 1, by omega⟩
          have hxi : ∀ h : i < r.size, ((r[i]'h).toNat : Int) = bt r (i : Int) := fun h => by simpa using bt_at r (i : Int) (by simpa using h)
          have hri := bt_range r (i : Int)
          by_cases hn : i < r.size ∧ digI (bt r (i : Int)) = true
          · obtain ⟨hlt1, hdg⟩ := hn
            go_wp2_with (go_at_call 176; refine (isdigit_calls _ _ (by omega) (by omega)).mono ?_; rintro e w' ⟨rfl, rfl⟩)
            go_roundg g1
            case measure => omega
            case rel =>
              refine ⟨i + 1, by go_num, by omega, by omega, rfl, ⟨fun j hj hji => ?_⟩⟩
              by_cases hj1 : j < i
              · exact HI.out j hj hj1
              · obtain rfl : j = i := by omega
                rw [dig_at]; exact hdg
          have HT := Aside0.mk (Dur.takeWhile_of (k := i) (by rw [len_toList]; exact hile) HI.out (fun hk' => by
            rw [dig_at]; rw [len_toList] at hk'; simpa [hk'] using hn))
          clear HI
          have hX : (r.extract 0 i).data.toList = r.data.toList.take i := by rw [Lib.extract_data]; simp
          have hXs : (r.extract 0 i).size ≤ 281474976710656 := by rw [ByteArray.size_extract]; omega
          by_cases hp : ∃ u, Lib.parseUintB 64 (r.data.toList.take i) = .ok u
          · obtain ⟨u, hu⟩ := hp
            have HU := Aside0.mk (show Lib.parseUintB 64 (r.extract 0 i).data.toList = .ok u by rw [hX]; exact hu)
            have HX := Aside0.mk hX
            have hub := Lib.parseUintB_le hu
            clear hX hu
            by_cases hlt1 : i < r.size
            all_goals
              first | (have hdg : digI (bt r (i : Int)) = false := by simpa [hlt1] using hn) | skip
              clear hn
              go_wp2_with (first | (go_at_call 176; refine (isdigit_calls _ _ (by omega) (by omega)).mono ?_; rintro e w' ⟨rfl, rfl⟩) | (go_at_call 158; refine (parseUint_ok _ hXs _ HU.out _ HG.out).mono ?_; rintro e w2 ⟨rfl, hb2⟩; have HB2 := Aside0.mk (below_step HB.out hb2); have HG2 := Aside0.mk (HG.out.next hb2); clear hb2))
              generalize hq : r.extract i r.size = q at *
              have hqs : q.size = r.size - i := by rw [← hq, ByteArray.size_extract]; omega
              have hql : q.data.toList = r.data.toList.drop i := by rw [← hq, Lib.extract_data, List.take_of_length_le (by rw [List.length_drop, len_toList]; omega)]
              have HQ := Aside0.mk hql
              have hqs1 : q.size ≤ r.size - i := by omega
              have hqs2 : r.size - i ≤ q.size := by omega
              clear hq hql hxi hri hqs
              go_loopg [6] (q.size + 1) (fun kq v6 w' => ∃ m : Nat, v6 = .int .i64 (m : Int) ∧ m + kq = q.size + 1 ∧ m ≤ q.size ∧ w' = w2 ∧ Aside0 (∀ j (hj : j < q.data.toList.length), j < m → (!Dur.isDig (q.data.toList[j])) = true))
              case atStart => exact ⟨0, rfl, by omega, by omega, rfl, ⟨fun j _ h => by omega⟩⟩
              case round =>
                obtain ⟨m, rfl, hmk, hmle, rfl, HI⟩ := hrel
                obtain ⟨g2, rfl⟩ : ∃ z, gk = z + 1 := ⟨gk - 1, by omega⟩
                have hxm : ∀ h : m < q.size, ((q[m]'h).toNat : Int) = bt q (m : Int) := fun h => by simpa using bt_at q (m : Int) (by simpa using h)
                have hrm := bt_range q (m : Int)
                by_cases hn2 : m < q.size ∧ digI (bt q (m : Int)) = false
                · obtain ⟨hlt2, hdg2⟩ := hn2
                  first
                    | (exfalso; omega)
                    | (go_wp2_with (go_at_call 176; refine (isdigit_calls _ _ (by omega) (by omega)).mono ?_; rintro e w' ⟨rfl, rfl⟩)
                       go_roundg g2
                       case measure => omega
                       case rel =>
                         refine ⟨m + 1, by go_num, by omega, by omega, rfl, ⟨fun j hj hji => ?_⟩⟩
                         by_cases hj1 : j < m
                         · exact HI.out j hj hj1
                         · obtain rfl : j = m := by omega
                           rw [dig_at, hdg2]; rfl)
                have HT2 := Aside0.mk (Dur.takeWhile_of (p := fun c => !Dur.isDig c) (k := m) (by rw [len_toList]; exact hmle) HI.out (fun hk' => by
                  rw [dig_at]; rw [len_toList] at hk'; simpa [hk'] using hn2))
                clear HI
                have hY : (q.extract 0 m).data.toList = q.data.toList.take m := by rw [Lib.extract_data]; simp
                have HR := Aside0.mk (show Dur.parse s.data.toList = match Dur.unit (q.extract 0 m).data.toList with
                    | none => none
                    | some (pos, mult) =>
                      if pos ≤ last then none
                      else if 9223372036854775808 / mult < u then none
                      else if 9223372036854775807 < dur + u * mult then none
                      else Dur.rounds k (dur + u * mult) pos (q.data.toList.drop m) by
                  rw [← HA.out, Dur.rounds_next hne HT.out, if_neg (fun h => by have := HU.out; rw [HX.out, h] at this; simp [Lib.parseUintB] at this), ← HX.out, HU.out, ← HQ.out, HT2.out.1, HT2.out.2, hY]; rfl)
                clear hY
                cases hc : Dur.unit (q.extract 0 m).data.toList with
                | none =>
                  have HP := Aside0.mk (show Dur.parse s.data.toList = none by rw [HR.out, hc])
                  have HC := Aside0.mk hc
                  clear hc
                  by_cases hm0 : m = 0
                  · have hm1 : ((m : Int) == 0) = true := by rw [hm0]; rfl
                    clear hm0
                    by_cases hlt2 : m < q.size
                    all_goals
                      first
                        | (exfalso; omega)
                        | (first | (have hdg2 : digI (bt q (m : Int)) = true := by simpa [hlt2] using hn2) | skip
                           clear hn2
                           go_wp2_with (first | (go_at_call 176; refine (isdigit_calls _ _ (by omega) (by omega)).mono ?_; rintro e w' ⟨rfl, rfl⟩) | (go_at_call 118; refine (new_err _ _).mono ?_; rintro e w5 ⟨t', x', rfl, hb5⟩))
                           go_ret2
                           exact ⟨by rw [HP.out]; exact ⟨_, ⟨_, _, rfl⟩, rfl⟩, below_step HB2.out hb5⟩)
                  · have hm1 : ((m : Int) == 0) = false := by rw [beq_eq_false_iff_ne]; omega
                    by_cases hlt2 : m < q.size
                    all_goals
                      first
                        | (exfalso; omega)
                        | (first | (have hdg2 : digI (bt q (m : Int)) = true := by simpa [hlt2] using hn2) | skip
                           clear hn2
                           go_wp2_with (first | (go_at_call 176; refine (isdigit_calls _ _ (by omega) (by omega)).mono ?_; rintro e w' ⟨rfl, rfl⟩) | (go_at_call 177; refine (unit_no _ HC.out _).mono ?_; rintro e w4 ⟨rfl, hb4⟩; have HB4 := Aside0.mk hb4; clear hb4) | (go_at_call 118; refine (new_err _ _).mono ?_; rintro e w5 ⟨t', x', rfl, hb5⟩))
                           go_ret2
                           exact ⟨by rw [HP.out]; exact ⟨_, ⟨_, _, rfl⟩, rfl⟩, below_step (below_alloc (below_step HB2.out HB4.out) _) hb5⟩)
                | some pm =>
                  obtain ⟨p, mu⟩ := pm
                  obtain ⟨hp1, hp7, hmu1, hmu2⟩ := Dur.unit_mult hc
                  have hm0 : m ≠ 0 := fun h => by subst h; rw [show (q.extract 0 0).data.toList = [] by rw [Lib.extract_data]; simp, Dur.unit_nil] at hc; cases hc
                  have hm1 : ((m : Int) == 0) = false := by rw [beq_eq_false_iff_ne]; omega
                  have HC := Aside0.mk hc
                  have HR2 := Aside0.mk (show Dur.parse s.data.toList = if p ≤ last then none
                      else if 9223372036854775808 / mu < u then none
                      else if 9223372036854775807 < dur + u * mu then none
                      else Dur.rounds k (dur + u * mu) p (q.data.toList.drop m) by rw [HR.out, hc])
                  clear hc HR
                  by_cases h1 : p ≤ last
                  · have HP := Aside0.mk (show Dur.parse s.data.toList = none by rw [HR2.out, if_pos h1])
                    clear HR2
                    by_cases hlt2 : m < q.size
                    all_goals
                      first
                        | (exfalso; omega)
                        | (first | (have hdg2 : digI (bt q (m : Int)) = true := by simpa [hlt2] using hn2) | skip
                           clear hn2
                           go_wp2_with (first | (go_at_call 176; refine (isdigit_calls _ _ (by omega) (by omega)).mono ?_; rintro e w' ⟨rfl, rfl⟩) | (go_at_call 177; refine (unit_ok _ _ _ HC.out _).mono ?_; rintro e w4 ⟨rfl, hb4⟩; have HB4 := Aside0.mk (below_step HB2.out hb4); have HG4 := Aside0.mk (HG2.out.next hb4); clear hb4) | (go_at_call 118; refine (new_err _ _).mono ?_; rintro e w5 ⟨t', x', rfl, hb5⟩))
                           go_ret2
                           exact ⟨by rw [HP.out]; exact ⟨_, ⟨_, _, rfl⟩, rfl⟩, below_step (below_alloc HB4.out _) hb5⟩)
                  · have h1' : last < p := by omega
                    clear h1
                    by_cases h2 : 9223372036854775808 / mu < u
                    · have HP := Aside0.mk (show Dur.parse s.data.toList = none by rw [HR2.out, if_neg (by omega), if_pos h2])
                      have h2i : (9223372036854775808 : Int) / (mu : Int) < (u : Int) := Dur.div_lt h2
                      clear HR2 h2
                      by_cases hlt2 : m < q.size
                      all_goals
                        first
                          | (exfalso; omega)
                          | (first | (have hdg2 : digI (bt q (m : Int)) = true := by simpa [hlt2] using hn2) | skip
                             clear hn2
                             go_wp2_with (first | (go_at_call 176; refine (isdigit_calls _ _ (by omega) (by omega)).mono ?_; rintro e w' ⟨rfl, rfl⟩) | (go_at_call 177; refine (unit_ok _ _ _ HC.out _).mono ?_; rintro e w4 ⟨rfl, hb4⟩; have HB4 := Aside0.mk (below_step HB2.out hb4); have HG4 := Aside0.mk (HG2.out.next hb4); clear hb4) | (go_at_call 118; refine (new_err _ _).mono ?_; rintro e w5 ⟨t', x', rfl, hb5⟩))
                             go_ret2
                             exact ⟨by rw [HP.out]; exact ⟨_, ⟨_, _, rfl⟩, rfl⟩, below_step (below_alloc HB4.out _) hb5⟩)
                    · have h2i : (u : Int) ≤ (9223372036854775808 : Int) / (mu : Int) := Dur.le_div (Nat.le_of_not_lt h2)
                      have hnw := Dur.no_wrap hdur (by omega) (Nat.le_of_not_lt h2)
                      have HR3 := Aside0.mk (show Dur.parse s.data.toList = if 9223372036854775807 < dur + u * mu then none
                        else Dur.rounds k (dur + u * mu) p (q.data.toList.drop m) by rw [HR2.out, if_neg (by omega), if_neg h2])
                      have HW1 := Dur.wrap_sum (dur := dur) (v := u) (m := mu) hdur hnw
                      clear HR2 h2 hnw
                      generalize dur + u * mu = nd at *
                      by_cases h3 : 9223372036854775807 < nd
                      · have HP := Aside0.mk (show Dur.parse s.data.toList = none by rw [HR3.out, if_pos h3])
                        have h3i : (9223372036854775807 : Int) < (nd : Int) := by omega
                        clear HR3
                        by_cases hlt2 : m < q.size
                        all_goals
                          first
                            | (exfalso; omega)
                            | (first | (have hdg2 : digI (bt q (m : Int)) = true := by simpa [hlt2] using hn2) | skip
                               clear hn2
                               go_wp2_with (first | (go_at_call 176; refine (isdigit_calls _ _ (by omega) (by omega)).mono ?_; rintro e w' ⟨rfl, rfl⟩) | (go_at_call 177; refine (unit_ok _ _ _ HC.out _).mono ?_; rintro e w4 ⟨rfl, hb4⟩; have HB4 := Aside0.mk (below_step HB2.out hb4); have HG4 := Aside0.mk (HG2.out.next hb4); clear hb4) | (go_at_call 118; refine (new_err _ _).mono ?_; rintro e w5 ⟨t', x', rfl, hb5⟩))
                               go_ret2
                               exact ⟨by rw [HP.out]; exact ⟨_, ⟨_, _, rfl⟩, rfl⟩, below_step (below_alloc HB4.out _) hb5⟩)
                      · have h3i : (nd : Int) ≤ 9223372036854775807 := by omega
                        have HR4 := Aside0.mk (show Dur.rounds k nd p (q.data.toList.drop m) = Dur.parse s.data.toList by rw [HR3.out, if_neg h3])
                        clear HR3 h3
                        by_cases hlt2 : m < q.size
                        all_goals
                          first
                            | (exfalso; omega)
                            | (first | (have hdg2 : digI (bt q (m : Int)) = true := by simpa [hlt2] using hn2) | skip
                               clear hn2
                               go_wp2_with (first | (go_at_call 176; refine (isdigit_calls _ _ (by omega) (by omega)).mono ?_; rintro e w' ⟨rfl, rfl⟩) | (go_at_call 177; refine (unit_ok _ _ _ HC.out _).mono ?_; rintro e w4 ⟨rfl, hb4⟩; have HB4 := Aside0.mk (below_step HB2.out hb4); have HG4 := Aside0.mk (HG2.out.next hb4); clear hb4) | (go_at_call 118; refine (new_err _ _).mono ?_; rintro e w5 ⟨t', x', rfl, hb5⟩))
                               go_roundg k
                               case measure => omega
                               case rel => exact ⟨q.extract m q.size, nd, p, rfl, rfl, rfl, by rw [ByteArray.size_extract]; omega, by rw [ByteArray.size_extract]; omega, by omega, by omega, ⟨by rw [drop_data]; exact HR4.out⟩, ⟨HG4.out.alloc _⟩, ⟨below_alloc HB4.out _⟩⟩)
          · have HU := Aside0.mk (show ∀ u, Lib.parseUintB 64 (r.extract 0 i).data.toList ≠ .ok u by rw [hX]; exact fun u h => hp ⟨u, h⟩)
            have HP := Aside0.mk (show Dur.parse s.data.toList = none by
              rw [← HA.out, Dur.rounds_next hne HT.out]
              split
              · rfl
              · cases hc : Lib.parseUintB 64 (r.data.toList.take i) with
                | ok u => exact absurd ⟨u, hc⟩ hp
                | _ => rfl)
            clear hX hp
            by_cases hlt1 : i < r.size
            all_goals
              first | (have hdg : digI (bt r (i : Int)) = false := by simpa [hlt1] using hn) | skip
              clear hn
              go_wp2_with (first | (go_at_call 176; refine (isdigit_calls _ _ (by omega) (by omega)).mono ?_; rintro e w' ⟨rfl, rfl⟩) | (go_at_call 158; refine (parseUint_err _ hXs HU.out _ HG.out).mono ?_; rintro e w2 ⟨n, t, x, rfl, hb2⟩; have HB2 := Aside0.mk (hb2); clear hb2) | (go_at_call 118; refine (new_err _ _).mono ?_; rintro e w3 ⟨t', x', rfl, hb3⟩))
              go_ret2
              exact ⟨by rw [HP.out]; exact ⟨_, ⟨_, _, rfl⟩, rfl⟩, below_step (below_step HB.out HB2.out) hb3⟩
      · have hd1 : digI (bt r 0) = false := by simpa using hd
        have HP := Aside0.mk (show Dur.parse s.data.toList = none by
          rw [← HA.out, Dur.rounds_next hne (Dur.takeWhile_of (k := 0) (by omega) (fun j _ h => by omega) (fun hk' => by rw [dig_at]; exact hd1)), if_pos (by simp)])
        clear hd
        go_wp2_with (first | (go_at_call 176; refine (isdigit_calls _ _ (by omega) (by omega)).mono ?_; rintro e w' ⟨rfl, rfl⟩) | (go_at_call 118; refine (new_err _ _).mono ?_; rintro e w5 ⟨t', x', rfl, hb5⟩))
        go_ret2
        exact ⟨by rw [HP.out]; exact ⟨_, ⟨_, _, rfl⟩, rfl⟩, below_step HB.out hb5⟩
end Go.Proofs.YtobbfenkdnaanaaGreatDoor
