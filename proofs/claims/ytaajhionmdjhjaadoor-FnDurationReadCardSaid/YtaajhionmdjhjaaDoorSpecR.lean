/- Durations: the reference's reading of a duration, walked. -/
import Derived.Test.YtaajhionmdjhjaaDoorDurF
import Derived.Test.YtaajhionmdjhjaaDoorDurR
import Derived.Deep.CutBlock
import Derived.Deep.DeepCutAuto
set_option linter.unusedVariables false
set_option linter.unusedSimpArgs false
namespace Go.Proofs.YtaajhionmdjhjaaDoor
open Go.RowKit

/-- The world behind spec.units. -/
def unitsB (w : World) : World := (w.alloc (.cells #[.string ⟨#[121]⟩, .string ⟨#[119]⟩, .string ⟨#[100]⟩, .string ⟨#[104]⟩, .string ⟨#[109]⟩, .string ⟨#[115]⟩, .string ⟨#[109, 115]⟩] 9)).alloc (.cells #[.int .i64 31536000000, .int .i64 604800000, .int .i64 86400000, .int .i64 3600000, .int .i64 60000, .int .i64 1000, .int .i64 1] 2)

/-- What the reference answers. -/
def SpecPost (l : List UInt8) (w : World) (e : Ending) (w' : World) : Prop :=
  (match Dur.parse l with
    | some n => e = .returned (.tuple #[.int .i64 (n : Int), .bool true])
    | none => e = .returned (.tuple #[.int .i64 0, .bool false])) ∧ Below w.heap.size w w'

theorem dv_next (r : ByteArray) (i : Nat) (h : i < r.size) : Dur.dv (r.data.toList.take (i + 1)) = Dur.dv (r.data.toList.take i) * 10 + ((bt r (i : Int)).toNat - 48) := by
  have h' : i < r.data.toList.length := by rw [len_toList]; exact h
  have e : bt r (i : Int) = ((r.data.toList[i]).toNat : Int) := by rw [← bt_at r (i : Int) (by simpa using h)]; simp; rfl
  rw [List.take_succ_eq_append_getElem h', Dur.dv_snoc, e]
  simp
set_option maxHeartbeats 4000000 in
set_option maxRecDepth 100000 in
theorem specRead_calls (s : ByteArray) (hs : s.size ≤ 281474976710656) (w : World) :
    Calls Tryd.prog 13 #[.string s] w (SpecPost s.data.toList w) := by
  by_cases h0 : s.toList = [48]
  · have b0 : (s.toList == [48]) = true := beq_iff_eq.mpr h0
    have HP := Aside0.mk (show Dur.parse s.data.toList = some 0 by rw [← ByteArray.toList_eq, h0]; rfl)
    clear h0
    go_enter Tryd.func13, Tryd.ntmps13
    go_wp2
    go_ret2
    exact ⟨by rw [HP.out]; rfl, Below.refl _ _⟩
  have b0 : (s.toList == [48]) = false := beq_eq_false_iff_ne.mpr h0
  have HW := Aside0.mk (below_alloc (below_alloc (Below.refl w.heap.size w) (.cells #[.string ⟨#[121]⟩, .string ⟨#[119]⟩, .string ⟨#[100]⟩, .string ⟨#[104]⟩, .string ⟨#[109]⟩, .string ⟨#[115]⟩, .string ⟨#[109, 115]⟩] 9)) (.cells #[.int .i64 31536000000, .int .i64 604800000, .int .i64 86400000, .int .i64 3600000, .int .i64 60000, .int .i64 1000, .int .i64 1] 2))
  by_cases h1 : s.toList = []
  · have c0 : s.toList.isEmpty = true := by rw [h1]; rfl
    have HP := Aside0.mk (show Dur.parse s.data.toList = none by rw [← ByteArray.toList_eq, h1]; rfl)
    clear h0 h1
    go_enter Tryd.func13, Tryd.ntmps13
    go_wp2
    go_loopg [6, 7, 8] 1 (fun kq v6 v7 v8 w' => v6 = .int .u64 0 ∧ v8 = .string s ∧ Aside0 (Below w.heap.size w w'))
    case atStart => exact ⟨rfl, rfl, HW⟩
    case round =>
      obtain ⟨rfl, rfl, HB⟩ := hrel
      go_wp2
      go_ret2
      exact ⟨by rw [HP.out]; rfl, HB.out⟩
  have c1 : s.toList.isEmpty = false := by simpa using h1
  have HP := Aside0.mk (show Dur.parse s.data.toList = Dur.rounds (s.size + 1) 0 0 s.data.toList by
    rw [ByteArray.toList_eq] at h0 h1; rw [Dur.parse, if_neg h0, if_neg h1, Array.length_toList]; rfl)
  clear h0 h1
  go_enter Tryd.func13, Tryd.ntmps13
  go_wp2
  clear b0
  go_loopg [6, 7, 8] (s.size + 1) (fun kq v6 v7 v8 w' => ∃ (r : ByteArray) (dur last : Nat), v6 = .int .u64 (dur : Int) ∧ v7 = .int .i64 ((last : Int) - 1) ∧ v8 = .string r ∧ r.size < kq ∧ r.size ≤ 281474976710656 ∧ dur ≤ 9223372036854775807 ∧ last ≤ 7 ∧ Aside0 (Dur.rounds kq dur last r.data.toList = Dur.parse s.data.toList) ∧ Aside0 (Below (w.heap.size + 2) (unitsB w) w'))
  case atStart => exact ⟨s, 0, 0, rfl, rfl, rfl, by omega, hs, by omega, by omega, ⟨HP.out.symm⟩, ⟨Below.refl _ _⟩⟩
  case round =>
    obtain ⟨r, dur, last, rfl, rfl, rfl, hlt, hle, hdur, hlast, HA, HB⟩ := hrel
    obtain ⟨wo, hwo⟩ : ∃ wo : World, wo = wr := ⟨_, rfl⟩
    subst hwo
    have HB0 := Aside0.mk (HW.out.trans (HB.out.mono (Nat.le_add_right _ 2)))
    obtain ⟨f, rfl⟩ : ∃ m, gk = m + 1 := ⟨gk - 1, by omega⟩
    by_cases hr : r.toList = []
    · have c0 : r.toList.isEmpty = true := by rw [hr]; rfl
      have HP := Aside0.mk (show Dur.parse s.data.toList = some dur by rw [← HA.out, ← ByteArray.toList_eq, hr]; rfl)
      clear hr
      go_wp2
      go_ret2
      exact ⟨by rw [HP.out]; rfl, HB0.out⟩
    have c0 : r.toList.isEmpty = false := by simpa using hr
    have hne : r.data.toList ≠ [] := by rw [← ByteArray.toList_eq]; exact hr
    obtain ⟨k, hk⟩ : ∃ k, k = (r.data.toList.takeWhile Dur.isDig).length := ⟨_, rfl⟩
    obtain ⟨hT, hkle, hD, hE⟩ := Dur.split_at (p := Dur.isDig) hk
    rw [len_toList] at hkle
    have HT := Aside0.mk hT
    have HD := Aside0.mk (show ∀ j, j < r.size → j < k → digI (bt r (j : Int)) = true from fun j h1 h2 => by rw [← dig_at r j (by rw [len_toList]; exact h1)]; exact hD j _ h2)
    have HE := Aside0.mk (show k < r.size → digI (bt r (k : Int)) = false from fun h1 => by rw [← dig_at r k (by rw [len_toList]; exact h1)]; exact hE _)
    clear hr hk hT hD hE
    go_upto_block 2 with (fail)
    go_cut [9, 10] (fun v9 v10 wc => ∃ v : Nat, v9 = .int .u64 (v : Int) ∧ v10 = .int .i64 (k : Int) ∧ wo = wc ∧ Aside0 (Dur.dv (r.data.toList.take k) = v) ∧ v ≤ 9223372036854775809)
    case first =>
      go_wp2_with fail
      go_loopg [9, 10] (k + 1) (fun kq v9 v10 w' => ∃ i v : Nat, i + kq = k + 1 ∧ i ≤ k ∧ v9 = .int .u64 (v : Int) ∧ v10 = .int .i64 (i : Int) ∧ Aside0 (Dur.dv (r.data.toList.take i) = v) ∧ v ≤ 9223372036854775809 ∧ w' = wo)
      case atStart => exact ⟨0, 0, by omega, by omega, rfl, rfl, ⟨rfl⟩, Nat.zero_le _, rfl⟩
      case round =>
        obtain ⟨i, v, hik, hile, rfl, rfl, HV, hv, rfl⟩ := hrel
        obtain ⟨g1, rfl⟩ : ∃ m, gk = m + 1 := ⟨gk - 1, by omega⟩
        have hxi : ∀ h : i < r.size, ((r[i]'h).toNat : Int) = bt r (i : Int) := fun h => by simpa using bt_at r (i : Int) (by simpa using h)
        have hri := bt_range r (i : Int)
        rcases Nat.lt_or_eq_of_le hile with hi | hi
        · have hd : 48 ≤ bt r (i : Int) ∧ bt r (i : Int) ≤ 57 := of_decide_eq_true (HD.out i (by omega) hi)
          obtain ⟨hd1, hd2⟩ := hd
          have hlt1 : i < r.size := by omega
          by_cases hbig : 922337203685477580 < v
          · have hbig' : (922337203685477580 : Int) < (v : Int) := by omega
            have HP := Aside0.mk (show Dur.parse s.data.toList = none by
              have h1 := Dur.dv_take_ge r.data.toList (i + 1) k (by omega)
              have h2 := dv_next r i hlt1
              rw [HV.out] at h2
              rw [← HA.out, Dur.rounds_dv hne HT.out]
              split
              · rfl
              · exact Dur.after_great _ _ _ _ _ (by omega))
            clear hbig
            go_wp2
            go_ret2
            exact ⟨by rw [HP.out]; rfl, HB0.out⟩
          · have hsm : (v : Int) ≤ 922337203685477580 := by omega
            have HN := Aside0.mk (dv_next r i hlt1)
            clear hbig
            go_wp2
            go_roundg g1
            case measure => omega
            case rel => exact ⟨i + 1, (10 * (v : Int) + (bt r (i : Int) - 48)).toNat, by omega, by omega, by rw [Int.toNat_of_nonneg (by omega)], by go_num, ⟨by rw [HN.out, HV.out]; omega⟩, by omega, rfl⟩
        · subst hi
          by_cases hlt1 : i < r.size
          · have hd : ¬ (48 ≤ bt r (i : Int) ∧ bt r (i : Int) ≤ 57) := of_decide_eq_false (HE.out hlt1)
            by_cases hd1 : 48 ≤ bt r (i : Int)
            · have hd2 : 57 < bt r (i : Int) := by omega
              clear hd
              go_wp2
              go_meet
              case rel => exact ⟨v, rfl, rfl, rfl, HV, hv⟩
            · have hd2 : bt r (i : Int) < 48 := by omega
              clear hd hd1
              go_wp2
              go_meet
              case rel => exact ⟨v, rfl, rfl, rfl, HV, hv⟩
          · go_wp2
            go_meet
            case rel => exact ⟨v, rfl, rfl, rfl, HV, hv⟩
    case rest =>
      obtain ⟨v, rfl, rfl, rfl, HV, hv⟩ := hcut
      obtain ⟨m, hm⟩ : ∃ m, m = ((r.data.toList.drop k).takeWhile (fun c => !Dur.isDig c)).length := ⟨_, rfl⟩
      obtain ⟨hT2, hmle, hD2, hE2⟩ := Dur.split_at (p := fun c => !Dur.isDig c) hm
      rw [List.length_drop, len_toList] at hmle
      have HT2 := Aside0.mk hT2
      have HD2 := Aside0.mk (show ∀ j, k ≤ j → j < k + m → j < r.size → digI (bt r (j : Int)) = false from fun j h1 h2 h3 => by
        have := hD2 (j - k) (by rw [List.length_drop, len_toList]; omega) (by omega)
        rw [List.getElem_drop] at this
        rw [← dig_at r j (by rw [len_toList]; exact h3)]
        simpa [show k + (j - k) = j by omega] using this)
      have HE2 := Aside0.mk (show k + m < r.size → digI (bt r ((k + m : Nat) : Int)) = true from fun h1 => by
        have := hE2 (by rw [List.length_drop, len_toList]; omega)
        rw [List.getElem_drop] at this
        rw [← dig_at r (k + m) (by rw [len_toList]; exact h1)]
        simpa using this)
      clear hm hT2 hD2 hE2
      obtain ⟨k2, hk2⟩ : ∃ k2, k2 = k + m := ⟨_, rfl⟩
      rw [← hk2] at HE2 HD2
      have hk2a : k ≤ k2 := by omega
      have hk2b : k2 ≤ r.size := by omega
      have HM := Aside0.mk (show m = k2 - k by omega)
      clear hk2 hmle
      go_upto_block 4 with (fail)
      go_cut [11] (fun v11 wc => v11 = .int .i64 (k2 : Int) ∧ wo = wc)
      case first =>
        go_wp2_with fail
        go_loopg [11] (k2 - k + 1) (fun kq v11 w' => ∃ j : Nat, j + kq = k2 + 1 ∧ k ≤ j ∧ j ≤ k2 ∧ v11 = .int .i64 (j : Int) ∧ wo = w')
        case atStart => exact ⟨k, by omega, by omega, by omega, rfl, rfl⟩
        case round =>
          obtain ⟨j, hjk, hjk1, hjk2, rfl, rfl⟩ := hrel
          obtain ⟨g1, rfl⟩ : ∃ m, gk = m + 1 := ⟨gk - 1, by omega⟩
          have hxj : ∀ h : j < r.size, ((r[j]'h).toNat : Int) = bt r (j : Int) := fun h => by simpa using bt_at r (j : Int) (by simpa using h)
          have hrj := bt_range r (j : Int)
          rcases Nat.lt_or_eq_of_le hjk2 with hj | hj
          · have hd : ¬ (48 ≤ bt r (j : Int) ∧ bt r (j : Int) ≤ 57) := of_decide_eq_false (HD2.out j hjk1 hj (by omega))
            have hlt1 : j < r.size := by omega
            by_cases hd1 : bt r (j : Int) < 48
            · clear hd
              go_wp2
              go_roundg g1
              case measure => omega
              case rel => exact ⟨j + 1, by omega, by omega, by omega, by go_num, rfl⟩
            · have hd0 : 48 ≤ bt r (j : Int) := by omega
              have hd2 : 57 < bt r (j : Int) := by omega
              clear hd hd1
              go_wp2
              go_roundg g1
              case measure => omega
              case rel => exact ⟨j + 1, by omega, by omega, by omega, by go_num, rfl⟩
          · subst hj
            by_cases hlt1 : j < r.size
            · have hd : 48 ≤ bt r (j : Int) ∧ bt r (j : Int) ≤ 57 := of_decide_eq_true (HE2.out hlt1)
              obtain ⟨hd1, hd2⟩ := hd
              go_wp2
              go_meet
              case rel => exact ⟨rfl, rfl⟩
            · go_wp2
              go_meet
              case rel => exact ⟨rfl, rfl⟩
      case rest =>
        obtain ⟨rfl, rfl⟩ := hcut
        go_upto_block 6 with (fail)
        go_cut [12, 13] (fun v12 v13 wc => v12 = .int .i64 (Dur.ui (r.extract k k2).toList 7) ∧ Aside0 (Below wo.heap.size wo wc))
        case first =>
          go_wp2_with fail
          go_loopg [12, 13] 8 (fun kq v12 v13 w' => ∃ n : Nat, n + kq = 8 ∧ n ≤ 7 ∧ v12 = .int .i64 (Dur.ui (r.extract k k2).toList n) ∧ v13 = .int .i64 (n : Int) ∧ Aside0 (Below wo.heap.size wo w'))
          case atStart => exact ⟨0, by omega, by omega, by rw [Dur.ui], rfl, ⟨Below.refl _ _⟩⟩
          case round =>
            obtain ⟨n, hnk, hn7, rfl, rfl, HB3⟩ := hrel
            have HB4 := Aside0.mk (HB.out.trans (HB3.out.mono (by have := HB.out.size; simpa [unitsB] using this)))
            rcases (show n = 7 ∨ n = 0 ∨ n = 1 ∨ n = 2 ∨ n = 3 ∨ n = 4 ∨ n = 5 ∨ n = 6 by omega) with rfl | rfl | rfl | rfl | rfl | rfl | rfl | rfl
            · go_wp2
              go_meet
              case rel => exact ⟨rfl, HB3⟩
            · obtain rfl : gk = 8 := by omega
              have e2 := HB4.out.cell (p := ⟨w.heap.size, 0, none⟩) (by simp)
              have fn : wr.cell? ⟨w.heap.size, 0, none⟩ = some (.string ⟨#[121]⟩) := by rw [e2]; simp [unitsB, go_sem]
              clear e2
              by_cases hu : [121] = (r.extract k k2).toList
              · have HN := Aside0.mk (show Dur.ui (r.extract k k2).toList 1 = 0 by rw [Dur.ui1, if_pos hu])
                have cu : ([121] == (r.extract k k2).toList) = true := beq_iff_eq.2 hu
                clear hu
                go_wp2
                go_quiet (fail)
                go_wp2
                go_roundg 7
                case measure => omega
                case rel => exact ⟨1, by omega, by omega, by rw [HN.out], rfl, ⟨below_drewN HB3.out _⟩⟩
              · have HN := Aside0.mk (show Dur.ui (r.extract k k2).toList 1 = Dur.ui (r.extract k k2).toList 0 by rw [Dur.ui1, if_neg hu])
                have cu : ([121] == (r.extract k k2).toList) = false := beq_eq_false_iff_ne.2 hu
                clear hu
                go_wp2
                go_quiet (fail)
                go_wp2
                go_roundg 7
                case measure => omega
                case rel => exact ⟨1, by omega, by omega, by rw [HN.out], rfl, ⟨below_drewN HB3.out _⟩⟩
            · obtain rfl : gk = 7 := by omega
              have e2 := HB4.out.cell (p := ⟨w.heap.size, 1, none⟩) (by simp)
              have fn : wr.cell? ⟨w.heap.size, 1, none⟩ = some (.string ⟨#[119]⟩) := by rw [e2]; simp [unitsB, go_sem]
              clear e2
              by_cases hu : [119] = (r.extract k k2).toList
              · have HN := Aside0.mk (show Dur.ui (r.extract k k2).toList 2 = 1 by rw [Dur.ui2, if_pos hu])
                have cu : ([119] == (r.extract k k2).toList) = true := beq_iff_eq.2 hu
                clear hu
                go_wp2
                go_quiet (fail)
                go_wp2
                go_roundg 6
                case measure => omega
                case rel => exact ⟨2, by omega, by omega, by rw [HN.out], rfl, ⟨below_drewN HB3.out _⟩⟩
              · have HN := Aside0.mk (show Dur.ui (r.extract k k2).toList 2 = Dur.ui (r.extract k k2).toList 1 by rw [Dur.ui2, if_neg hu])
                have cu : ([119] == (r.extract k k2).toList) = false := beq_eq_false_iff_ne.2 hu
                clear hu
                go_wp2
                go_quiet (fail)
                go_wp2
                go_roundg 6
                case measure => omega
                case rel => exact ⟨2, by omega, by omega, by rw [HN.out], rfl, ⟨below_drewN HB3.out _⟩⟩
            · obtain rfl : gk = 6 := by omega
              have e2 := HB4.out.cell (p := ⟨w.heap.size, 2, none⟩) (by simp)
              have fn : wr.cell? ⟨w.heap.size, 2, none⟩ = some (.string ⟨#[100]⟩) := by rw [e2]; simp [unitsB, go_sem]
              clear e2
              by_cases hu : [100] = (r.extract k k2).toList
              · have HN := Aside0.mk (show Dur.ui (r.extract k k2).toList 3 = 2 by rw [Dur.ui3, if_pos hu])
                have cu : ([100] == (r.extract k k2).toList) = true := beq_iff_eq.2 hu
                clear hu
                go_wp2
                go_quiet (fail)
                go_wp2
                go_roundg 5
                case measure => omega
                case rel => exact ⟨3, by omega, by omega, by rw [HN.out], rfl, ⟨below_drewN HB3.out _⟩⟩
              · have HN := Aside0.mk (show Dur.ui (r.extract k k2).toList 3 = Dur.ui (r.extract k k2).toList 2 by rw [Dur.ui3, if_neg hu])
                have cu : ([100] == (r.extract k k2).toList) = false := beq_eq_false_iff_ne.2 hu
                clear hu
                go_wp2
                go_quiet (fail)
                go_wp2
                go_roundg 5
                case measure => omega
                case rel => exact ⟨3, by omega, by omega, by rw [HN.out], rfl, ⟨below_drewN HB3.out _⟩⟩
            · obtain rfl : gk = 5 := by omega
              have e2 := HB4.out.cell (p := ⟨w.heap.size, 3, none⟩) (by simp)
              have fn : wr.cell? ⟨w.heap.size, 3, none⟩ = some (.string ⟨#[104]⟩) := by rw [e2]; simp [unitsB, go_sem]
              clear e2
              by_cases hu : [104] = (r.extract k k2).toList
              · have HN := Aside0.mk (show Dur.ui (r.extract k k2).toList 4 = 3 by rw [Dur.ui4, if_pos hu])
                have cu : ([104] == (r.extract k k2).toList) = true := beq_iff_eq.2 hu
                clear hu
                go_wp2
                go_quiet (fail)
                go_wp2
                go_roundg 4
                case measure => omega
                case rel => exact ⟨4, by omega, by omega, by rw [HN.out], rfl, ⟨below_drewN HB3.out _⟩⟩
              · have HN := Aside0.mk (show Dur.ui (r.extract k k2).toList 4 = Dur.ui (r.extract k k2).toList 3 by rw [Dur.ui4, if_neg hu])
                have cu : ([104] == (r.extract k k2).toList) = false := beq_eq_false_iff_ne.2 hu
                clear hu
                go_wp2
                go_quiet (fail)
                go_wp2
                go_roundg 4
                case measure => omega
                case rel => exact ⟨4, by omega, by omega, by rw [HN.out], rfl, ⟨below_drewN HB3.out _⟩⟩
            · obtain rfl : gk = 4 := by omega
              have e2 := HB4.out.cell (p := ⟨w.heap.size, 4, none⟩) (by simp)
              have fn : wr.cell? ⟨w.heap.size, 4, none⟩ = some (.string ⟨#[109]⟩) := by rw [e2]; simp [unitsB, go_sem]
              clear e2
              by_cases hu : [109] = (r.extract k k2).toList
              · have HN := Aside0.mk (show Dur.ui (r.extract k k2).toList 5 = 4 by rw [Dur.ui5, if_pos hu])
                have cu : ([109] == (r.extract k k2).toList) = true := beq_iff_eq.2 hu
                clear hu
                go_wp2
                go_quiet (fail)
                go_wp2
                go_roundg 3
                case measure => omega
                case rel => exact ⟨5, by omega, by omega, by rw [HN.out], rfl, ⟨below_drewN HB3.out _⟩⟩
              · have HN := Aside0.mk (show Dur.ui (r.extract k k2).toList 5 = Dur.ui (r.extract k k2).toList 4 by rw [Dur.ui5, if_neg hu])
                have cu : ([109] == (r.extract k k2).toList) = false := beq_eq_false_iff_ne.2 hu
                clear hu
                go_wp2
                go_quiet (fail)
                go_wp2
                go_roundg 3
                case measure => omega
                case rel => exact ⟨5, by omega, by omega, by rw [HN.out], rfl, ⟨below_drewN HB3.out _⟩⟩
            · obtain rfl : gk = 3 := by omega
              have e2 := HB4.out.cell (p := ⟨w.heap.size, 5, none⟩) (by simp)
              have fn : wr.cell? ⟨w.heap.size, 5, none⟩ = some (.string ⟨#[115]⟩) := by rw [e2]; simp [unitsB, go_sem]
              clear e2
              by_cases hu : [115] = (r.extract k k2).toList
              · have HN := Aside0.mk (show Dur.ui (r.extract k k2).toList 6 = 5 by rw [Dur.ui6, if_pos hu])
                have cu : ([115] == (r.extract k k2).toList) = true := beq_iff_eq.2 hu
                clear hu
                go_wp2
                go_quiet (fail)
                go_wp2
                go_roundg 2
                case measure => omega
                case rel => exact ⟨6, by omega, by omega, by rw [HN.out], rfl, ⟨below_drewN HB3.out _⟩⟩
              · have HN := Aside0.mk (show Dur.ui (r.extract k k2).toList 6 = Dur.ui (r.extract k k2).toList 5 by rw [Dur.ui6, if_neg hu])
                have cu : ([115] == (r.extract k k2).toList) = false := beq_eq_false_iff_ne.2 hu
                clear hu
                go_wp2
                go_quiet (fail)
                go_wp2
                go_roundg 2
                case measure => omega
                case rel => exact ⟨6, by omega, by omega, by rw [HN.out], rfl, ⟨below_drewN HB3.out _⟩⟩
            · obtain rfl : gk = 2 := by omega
              have e2 := HB4.out.cell (p := ⟨w.heap.size, 6, none⟩) (by simp)
              have fn : wr.cell? ⟨w.heap.size, 6, none⟩ = some (.string ⟨#[109, 115]⟩) := by rw [e2]; simp [unitsB, go_sem]
              clear e2
              by_cases hu : [109, 115] = (r.extract k k2).toList
              · have HN := Aside0.mk (show Dur.ui (r.extract k k2).toList 7 = 6 by rw [Dur.ui7, if_pos hu])
                have cu : ([109, 115] == (r.extract k k2).toList) = true := beq_iff_eq.2 hu
                clear hu
                go_wp2
                go_quiet (fail)
                go_wp2
                go_roundg 1
                case measure => omega
                case rel => exact ⟨7, by omega, by omega, by rw [HN.out], rfl, ⟨below_drewN HB3.out _⟩⟩
              · have HN := Aside0.mk (show Dur.ui (r.extract k k2).toList 7 = Dur.ui (r.extract k k2).toList 6 by rw [Dur.ui7, if_neg hu])
                have cu : ([109, 115] == (r.extract k k2).toList) = false := beq_eq_false_iff_ne.2 hu
                clear hu
                go_wp2
                go_quiet (fail)
                go_wp2
                go_roundg 1
                case measure => omega
                case rel => exact ⟨7, by omega, by omega, by rw [HN.out], rfl, ⟨below_drewN HB3.out _⟩⟩
        case rest =>
          obtain ⟨rfl, HB2⟩ := hcut
          have HB5 := Aside0.mk (HB.out.trans (HB2.out.mono (by have := HB.out.size; simpa [unitsB] using this)))
          have HB6 := Aside0.mk (HW.out.trans (HB5.out.mono (Nat.le_add_right _ 2)))
          have HU := Aside0.mk (Dur.ui_unit (r.extract k k2).toList)
          have HX := Aside0.mk (show (r.extract k k2).toList = (r.data.toList.drop k).takeWhile (fun c => !Dur.isDig c) by
            rw [ByteArray.toList_eq, Lib.extract_data, HT2.out.1, HM.out])
          have HY := Aside0.mk (show (r.extract k2 r.size).data.toList = (r.data.toList.drop k).dropWhile (fun c => !Dur.isDig c) by
            have e : k + m = k2 := by have := HM.out; omega
            rw [drop_data, HT2.out.2, List.drop_drop, e])
          by_cases hk0 : k = 0
          · have HP := Aside0.mk (show Dur.parse s.data.toList = none by rw [← HA.out, Dur.rounds_dv hne HT.out, if_pos (by rw [hk0]; simp)])
            have c2 : ((k : Int) == 0) = true := by rw [hk0]; rfl
            clear hk0
            go_wp2
            go_ret2
            exact ⟨by rw [HP.out]; rfl, HB6.out⟩
          have c2 : ((k : Int) == 0) = false := by rw [beq_eq_false_iff_ne]; omega
          have HR := Aside0.mk (show Dur.parse s.data.toList = Dur.after f dur last (r.data.toList.take k) (r.data.toList.drop k) by
            rw [← HA.out, Dur.rounds_dv hne HT.out, if_neg (by intro h; have := congrArg List.length h; rw [List.length_take, len_toList, List.length_nil] at this; omega)])
          rcases HU.out with ⟨hn, hi⟩ | ⟨pos, mult, hs2, hi⟩
          · have HP := Aside0.mk (show Dur.parse s.data.toList = none by rw [HR.out, Dur.after, ← HX.out, hn])
            clear hn
            rw [hi]
            clear hi
            go_wp2
            go_ret2
            exact ⟨by rw [HP.out]; rfl, HB6.out⟩
          · have HQ := Aside0.mk (show Dur.parse s.data.toList = if pos ≤ last then none else if 9223372036854775808 / mult < v then none
                else if 9223372036854775807 < dur + v * mult then none else Dur.rounds f (dur + v * mult) pos (r.extract k2 r.size).data.toList by
              rw [HR.out, Dur.after, ← HX.out, hs2, ← HY.out, HV.out])
            rw [hi]
            by_cases hpl : pos ≤ last
            · have HP := Aside0.mk (show Dur.parse s.data.toList = none by rw [HQ.out, if_pos hpl])
              have c3 : (pos : Int) - 1 ≤ (last : Int) - 1 := by omega
              clear hi hs2 hpl
              go_wp2
              go_ret2
              exact ⟨by rw [HP.out]; rfl, HB6.out⟩
            · have hpl' : last < pos := by omega
              clear hpl
              rcases Dur.unit_cases hs2 with ⟨rfl, rfl⟩ | ⟨rfl, rfl⟩ | ⟨rfl, rfl⟩ | ⟨rfl, rfl⟩ | ⟨rfl, rfl⟩ | ⟨rfl, rfl⟩ | ⟨rfl, rfl⟩
              · have e2 := HB5.out.cell (p := ⟨w.heap.size + 1, 0, none⟩) (by simp)
                have fm : wc.cell? ⟨w.heap.size + 1, 0, none⟩ = some (.int .i64 31536000000) := by rw [e2]; simp [unitsB, go_sem]
                have c3 : (last : Int) - 1 < 0 := by omega
                clear e2 hi hs2
                by_cases h2 : 292 < v
                · have HP := Aside0.mk (show Dur.parse s.data.toList = none by rw [HQ.out, if_neg (by omega), if_pos (by exact h2)])
                  have h2i : (292 : Int) < (v : Int) := by omega
                  clear h2
                  go_wp2
                  go_ret2
                  exact ⟨by rw [HP.out]; rfl, HB6.out⟩
                · have h2i : (v : Int) ≤ 292 := by omega
                  by_cases h3 : 9223372036854775807 < dur + v * 31536000000000000
                  · have HP := Aside0.mk (show Dur.parse s.data.toList = none by rw [HQ.out, if_neg (by omega), if_neg (by exact h2), if_pos h3])
                    have h3i : (9223372036854775807 : Int) < (dur : Int) + (v : Int) * 31536000000000000 := by omega
                    clear h2 h3
                    go_wp2
                    go_ret2
                    exact ⟨by rw [HP.out]; rfl, HB6.out⟩
                  · have h3i : (dur : Int) + (v : Int) * 31536000000000000 ≤ 9223372036854775807 := by omega
                    have HN := Aside0.mk (show Dur.rounds f (dur + v * 31536000000000000) 1 (r.extract k2 r.size).data.toList = Dur.parse s.data.toList by rw [HQ.out, if_neg (by omega), if_neg (by exact h2), if_neg h3])
                    clear h2 h3
                    go_wp2
                    go_roundg f
                    case measure => omega
                    case rel => exact ⟨r.extract k2 r.size, dur + v * 31536000000000000, 1, by rw [Int.natCast_add, Int.natCast_mul]; rfl, rfl, rfl, by rw [ByteArray.size_extract]; omega, by rw [ByteArray.size_extract]; omega, by omega, by omega, HN, HB5⟩
              · have e2 := HB5.out.cell (p := ⟨w.heap.size + 1, 1, none⟩) (by simp)
                have fm : wc.cell? ⟨w.heap.size + 1, 1, none⟩ = some (.int .i64 604800000) := by rw [e2]; simp [unitsB, go_sem]
                have c3 : (last : Int) - 1 < 1 := by omega
                clear e2 hi hs2
                by_cases h2 : 15250 < v
                · have HP := Aside0.mk (show Dur.parse s.data.toList = none by rw [HQ.out, if_neg (by omega), if_pos (by exact h2)])
                  have h2i : (15250 : Int) < (v : Int) := by omega
                  clear h2
                  go_wp2
                  go_ret2
                  exact ⟨by rw [HP.out]; rfl, HB6.out⟩
                · have h2i : (v : Int) ≤ 15250 := by omega
                  by_cases h3 : 9223372036854775807 < dur + v * 604800000000000
                  · have HP := Aside0.mk (show Dur.parse s.data.toList = none by rw [HQ.out, if_neg (by omega), if_neg (by exact h2), if_pos h3])
                    have h3i : (9223372036854775807 : Int) < (dur : Int) + (v : Int) * 604800000000000 := by omega
                    clear h2 h3
                    go_wp2
                    go_ret2
                    exact ⟨by rw [HP.out]; rfl, HB6.out⟩
                  · have h3i : (dur : Int) + (v : Int) * 604800000000000 ≤ 9223372036854775807 := by omega
                    have HN := Aside0.mk (show Dur.rounds f (dur + v * 604800000000000) 2 (r.extract k2 r.size).data.toList = Dur.parse s.data.toList by rw [HQ.out, if_neg (by omega), if_neg (by exact h2), if_neg h3])
                    clear h2 h3
                    go_wp2
                    go_roundg f
                    case measure => omega
                    case rel => exact ⟨r.extract k2 r.size, dur + v * 604800000000000, 2, by rw [Int.natCast_add, Int.natCast_mul]; rfl, rfl, rfl, by rw [ByteArray.size_extract]; omega, by rw [ByteArray.size_extract]; omega, by omega, by omega, HN, HB5⟩
              · have e2 := HB5.out.cell (p := ⟨w.heap.size + 1, 2, none⟩) (by simp)
                have fm : wc.cell? ⟨w.heap.size + 1, 2, none⟩ = some (.int .i64 86400000) := by rw [e2]; simp [unitsB, go_sem]
                have c3 : (last : Int) - 1 < 2 := by omega
                clear e2 hi hs2
                by_cases h2 : 106751 < v
                · have HP := Aside0.mk (show Dur.parse s.data.toList = none by rw [HQ.out, if_neg (by omega), if_pos (by exact h2)])
                  have h2i : (106751 : Int) < (v : Int) := by omega
                  clear h2
                  go_wp2
                  go_ret2
                  exact ⟨by rw [HP.out]; rfl, HB6.out⟩
                · have h2i : (v : Int) ≤ 106751 := by omega
                  by_cases h3 : 9223372036854775807 < dur + v * 86400000000000
                  · have HP := Aside0.mk (show Dur.parse s.data.toList = none by rw [HQ.out, if_neg (by omega), if_neg (by exact h2), if_pos h3])
                    have h3i : (9223372036854775807 : Int) < (dur : Int) + (v : Int) * 86400000000000 := by omega
                    clear h2 h3
                    go_wp2
                    go_ret2
                    exact ⟨by rw [HP.out]; rfl, HB6.out⟩
                  · have h3i : (dur : Int) + (v : Int) * 86400000000000 ≤ 9223372036854775807 := by omega
                    have HN := Aside0.mk (show Dur.rounds f (dur + v * 86400000000000) 3 (r.extract k2 r.size).data.toList = Dur.parse s.data.toList by rw [HQ.out, if_neg (by omega), if_neg (by exact h2), if_neg h3])
                    clear h2 h3
                    go_wp2
                    go_roundg f
                    case measure => omega
                    case rel => exact ⟨r.extract k2 r.size, dur + v * 86400000000000, 3, by rw [Int.natCast_add, Int.natCast_mul]; rfl, rfl, rfl, by rw [ByteArray.size_extract]; omega, by rw [ByteArray.size_extract]; omega, by omega, by omega, HN, HB5⟩
              · have e2 := HB5.out.cell (p := ⟨w.heap.size + 1, 3, none⟩) (by simp)
                have fm : wc.cell? ⟨w.heap.size + 1, 3, none⟩ = some (.int .i64 3600000) := by rw [e2]; simp [unitsB, go_sem]
                have c3 : (last : Int) - 1 < 3 := by omega
                clear e2 hi hs2
                by_cases h2 : 2562047 < v
                · have HP := Aside0.mk (show Dur.parse s.data.toList = none by rw [HQ.out, if_neg (by omega), if_pos (by exact h2)])
                  have h2i : (2562047 : Int) < (v : Int) := by omega
                  clear h2
                  go_wp2
                  go_ret2
                  exact ⟨by rw [HP.out]; rfl, HB6.out⟩
                · have h2i : (v : Int) ≤ 2562047 := by omega
                  by_cases h3 : 9223372036854775807 < dur + v * 3600000000000
                  · have HP := Aside0.mk (show Dur.parse s.data.toList = none by rw [HQ.out, if_neg (by omega), if_neg (by exact h2), if_pos h3])
                    have h3i : (9223372036854775807 : Int) < (dur : Int) + (v : Int) * 3600000000000 := by omega
                    clear h2 h3
                    go_wp2
                    go_ret2
                    exact ⟨by rw [HP.out]; rfl, HB6.out⟩
                  · have h3i : (dur : Int) + (v : Int) * 3600000000000 ≤ 9223372036854775807 := by omega
                    have HN := Aside0.mk (show Dur.rounds f (dur + v * 3600000000000) 4 (r.extract k2 r.size).data.toList = Dur.parse s.data.toList by rw [HQ.out, if_neg (by omega), if_neg (by exact h2), if_neg h3])
                    clear h2 h3
                    go_wp2
                    go_roundg f
                    case measure => omega
                    case rel => exact ⟨r.extract k2 r.size, dur + v * 3600000000000, 4, by rw [Int.natCast_add, Int.natCast_mul]; rfl, rfl, rfl, by rw [ByteArray.size_extract]; omega, by rw [ByteArray.size_extract]; omega, by omega, by omega, HN, HB5⟩
              · have e2 := HB5.out.cell (p := ⟨w.heap.size + 1, 4, none⟩) (by simp)
                have fm : wc.cell? ⟨w.heap.size + 1, 4, none⟩ = some (.int .i64 60000) := by rw [e2]; simp [unitsB, go_sem]
                have c3 : (last : Int) - 1 < 4 := by omega
                clear e2 hi hs2
                by_cases h2 : 153722867 < v
                · have HP := Aside0.mk (show Dur.parse s.data.toList = none by rw [HQ.out, if_neg (by omega), if_pos (by exact h2)])
                  have h2i : (153722867 : Int) < (v : Int) := by omega
                  clear h2
                  go_wp2
                  go_ret2
                  exact ⟨by rw [HP.out]; rfl, HB6.out⟩
                · have h2i : (v : Int) ≤ 153722867 := by omega
                  by_cases h3 : 9223372036854775807 < dur + v * 60000000000
                  · have HP := Aside0.mk (show Dur.parse s.data.toList = none by rw [HQ.out, if_neg (by omega), if_neg (by exact h2), if_pos h3])
                    have h3i : (9223372036854775807 : Int) < (dur : Int) + (v : Int) * 60000000000 := by omega
                    clear h2 h3
                    go_wp2
                    go_ret2
                    exact ⟨by rw [HP.out]; rfl, HB6.out⟩
                  · have h3i : (dur : Int) + (v : Int) * 60000000000 ≤ 9223372036854775807 := by omega
                    have HN := Aside0.mk (show Dur.rounds f (dur + v * 60000000000) 5 (r.extract k2 r.size).data.toList = Dur.parse s.data.toList by rw [HQ.out, if_neg (by omega), if_neg (by exact h2), if_neg h3])
                    clear h2 h3
                    go_wp2
                    go_roundg f
                    case measure => omega
                    case rel => exact ⟨r.extract k2 r.size, dur + v * 60000000000, 5, by rw [Int.natCast_add, Int.natCast_mul]; rfl, rfl, rfl, by rw [ByteArray.size_extract]; omega, by rw [ByteArray.size_extract]; omega, by omega, by omega, HN, HB5⟩
              · have e2 := HB5.out.cell (p := ⟨w.heap.size + 1, 5, none⟩) (by simp)
                have fm : wc.cell? ⟨w.heap.size + 1, 5, none⟩ = some (.int .i64 1000) := by rw [e2]; simp [unitsB, go_sem]
                have c3 : (last : Int) - 1 < 5 := by omega
                clear e2 hi hs2
                by_cases h2 : 9223372036 < v
                · have HP := Aside0.mk (show Dur.parse s.data.toList = none by rw [HQ.out, if_neg (by omega), if_pos (by exact h2)])
                  have h2i : (9223372036 : Int) < (v : Int) := by omega
                  clear h2
                  go_wp2
                  go_ret2
                  exact ⟨by rw [HP.out]; rfl, HB6.out⟩
                · have h2i : (v : Int) ≤ 9223372036 := by omega
                  by_cases h3 : 9223372036854775807 < dur + v * 1000000000
                  · have HP := Aside0.mk (show Dur.parse s.data.toList = none by rw [HQ.out, if_neg (by omega), if_neg (by exact h2), if_pos h3])
                    have h3i : (9223372036854775807 : Int) < (dur : Int) + (v : Int) * 1000000000 := by omega
                    clear h2 h3
                    go_wp2
                    go_ret2
                    exact ⟨by rw [HP.out]; rfl, HB6.out⟩
                  · have h3i : (dur : Int) + (v : Int) * 1000000000 ≤ 9223372036854775807 := by omega
                    have HN := Aside0.mk (show Dur.rounds f (dur + v * 1000000000) 6 (r.extract k2 r.size).data.toList = Dur.parse s.data.toList by rw [HQ.out, if_neg (by omega), if_neg (by exact h2), if_neg h3])
                    clear h2 h3
                    go_wp2
                    go_roundg f
                    case measure => omega
                    case rel => exact ⟨r.extract k2 r.size, dur + v * 1000000000, 6, by rw [Int.natCast_add, Int.natCast_mul]; rfl, rfl, rfl, by rw [ByteArray.size_extract]; omega, by rw [ByteArray.size_extract]; omega, by omega, by omega, HN, HB5⟩
              · have e2 := HB5.out.cell (p := ⟨w.heap.size + 1, 6, none⟩) (by simp)
                have fm : wc.cell? ⟨w.heap.size + 1, 6, none⟩ = some (.int .i64 1) := by rw [e2]; simp [unitsB, go_sem]
                have c3 : (last : Int) - 1 < 6 := by omega
                clear e2 hi hs2
                by_cases h2 : 9223372036854 < v
                · have HP := Aside0.mk (show Dur.parse s.data.toList = none by rw [HQ.out, if_neg (by omega), if_pos (by exact h2)])
                  have h2i : (9223372036854 : Int) < (v : Int) := by omega
                  clear h2
                  go_wp2
                  go_ret2
                  exact ⟨by rw [HP.out]; rfl, HB6.out⟩
                · have h2i : (v : Int) ≤ 9223372036854 := by omega
                  by_cases h3 : 9223372036854775807 < dur + v * 1000000
                  · have HP := Aside0.mk (show Dur.parse s.data.toList = none by rw [HQ.out, if_neg (by omega), if_neg (by exact h2), if_pos h3])
                    have h3i : (9223372036854775807 : Int) < (dur : Int) + (v : Int) * 1000000 := by omega
                    clear h2 h3
                    go_wp2
                    go_ret2
                    exact ⟨by rw [HP.out]; rfl, HB6.out⟩
                  · have h3i : (dur : Int) + (v : Int) * 1000000 ≤ 9223372036854775807 := by omega
                    have HN := Aside0.mk (show Dur.rounds f (dur + v * 1000000) 7 (r.extract k2 r.size).data.toList = Dur.parse s.data.toList by rw [HQ.out, if_neg (by omega), if_neg (by exact h2), if_neg h3])
                    clear h2 h3
                    go_wp2
                    go_roundg f
                    case measure => omega
                    case rel => exact ⟨r.extract k2 r.size, dur + v * 1000000, 7, by rw [Int.natCast_add, Int.natCast_mul]; rfl, rfl, rfl, by rw [ByteArray.size_extract]; omega, by rw [ByteArray.size_extract]; omega, by omega, by omega, HN, HB5⟩
end Go.Proofs.YtaajhionmdjhjaaDoor
