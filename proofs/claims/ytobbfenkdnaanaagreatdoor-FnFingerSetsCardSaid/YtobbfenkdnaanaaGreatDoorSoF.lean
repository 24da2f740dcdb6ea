/- slices' partition of a row of numbers, by contract. -/
import Derived.Test.YtobbfenkdnaanaaGreatDoorSoE
import Derived.Deep.Cut
import Derived.Deep.CutBlock
import Derived.Deep.CutRange
import Derived.Deep.DeepCutAuto
import Derived.BigRegion
set_option linter.unusedVariables false
set_option linter.unusedSimpArgs false
namespace Go.Proofs.YtobbfenkdnaanaaGreatDoor
open Go.RowKit Go.Sort

theorem row_swap0 (w : World) (q blk off : Nat) (d : Array Int) (j k : Nat) (hH : Holds U64 w blk off d) (hj : j < d.size) (hk : k < d.size) :
    ((w.drewN q).setCell ⟨blk, off + j, none⟩ (.int .u64 d[k]!)).setCell ⟨blk, off + k, none⟩ (.int .u64 d[j]!) = putRow U64 (Sort.ahead w q) blk off (swp d j k) := by
  have h := row_swap w 0 q blk off d j k hj hk
  rw [show Sort.ahead w 0 = w from rfl, putRow_self _ _ _ _ _ hH, Nat.zero_add] at h
  exact h

/-- A world in which the row holds dk, and nothing else has turned. -/
def RowAt (w : World) (blk off : Nat) (dk : Array Int) (wx : World) : Prop := ∃ m, wx = putRow U64 (Sort.ahead w m) blk off dk

theorem RowAt.drewN {w wx : World} {blk off : Nat} {dk : Array Int} (h : RowAt w blk off dk wx) (q : Nat) : RowAt w blk off dk (wx.drewN q) := by
  obtain ⟨m, rfl⟩ := h
  exact ⟨m + q, row_drewN _ _ _ _ _ _⟩
theorem RowAt.swap {w wx : World} {blk off : Nat} {dk : Array Int} (h : RowAt w blk off dk wx) (q j k : Nat) (hj : j < dk.size) (hk : k < dk.size) :
    RowAt w blk off (swp dk j k) (((wx.drewN q).setCell ⟨blk, off + j, none⟩ (.int .u64 dk[k]!)).setCell ⟨blk, off + k, none⟩ (.int .u64 dk[j]!)) := by
  obtain ⟨m, rfl⟩ := h
  exact ⟨m + q, row_swap w m q blk off dk j k hj hk⟩
theorem RowAt.cells {w wx : World} {blk off n : Nat} {d dk : Array Int} (h : RowAt w blk off dk wx) (hH : Holds U64 w blk off d) (hs : dk.size = d.size) (hn : d.size = n) :
    (∀ t, t < n → wx.cell? ⟨blk, off + t, none⟩ = some (.int .u64 dk[t]!)) ∧ (∀ t, t < n → wx.frozen? ⟨blk, off + t, none⟩ = false) := by
  obtain ⟨m, hw⟩ := h
  exact row_cells hH hs hn hw

set_option maxHeartbeats 2000000 in
set_option maxRecDepth 100000 in
theorem part_u (blk off cap a b q : Nat) (d : Array Int) (n : Nat) (hn : d.size = n) (w : World) (hH : Holds U64 w blk off d) (haq : a ≤ q) (hqb : q < b) (hab : a + 13 ≤ b) (hb : b ≤ d.size) (hsz : n ≤ 1000000) :
    Calls Tryz.prog 193 #[.slice (some ⟨blk, off, none⟩) n cap, .int .i64 a, .int .i64 b, .int .i64 q] w fun e w' =>
      ∃ (m : Nat) (f : Bool) (d' : Array Int), e = .returned (.tuple #[.int .i64 m, .bool f]) ∧ Parted a b d[q]! d m d' ∧ RowAt w blk off d' w' := by
  subst hn
  have HS := Lib.hid (part_start hb haq hqb)
  have HH := Lib.hid hH
  obtain ⟨p, hp⟩ : ∃ p, p = d[q]! := ⟨_, rfl⟩
  rw [← hp] at HS ⊢
  have HP := Lib.hid hp
  clear hp hH
  go_enter Tryz.func193, Tryz.ntmps193
  go_upto_region 1 with fail
  go_cut [] (fun wx => RowAt w blk off (swp d a q) wx)
  case first =>
    obtain ⟨G, hG⟩ : ∃ G : Nat → Int, ∀ x, G x = d[x]! := ⟨fun x => d[x]!, fun _ => rfl⟩
    have hca : w.cell? ⟨blk, off + a, none⟩ = some (.int .u64 (G a)) := by rw [hG]; exact (HH.out a (by omega)).1
    have hcq : w.cell? ⟨blk, off + q, none⟩ = some (.int .u64 (G q)) := by rw [hG]; exact (HH.out q (by omega)).1
    have hfa : w.frozen? ⟨blk, off + a, none⟩ = false := (HH.out a (by omega)).2
    have hfq : w.frozen? ⟨blk, off + q, none⟩ = false := (HH.out q (by omega)).2
    have HG := Lib.hid hG
    clear hG
    by_cases heq : a = q
    all_goals
      go_region
      all_goals go_wp2_with fail
      all_goals go_meet
      case rel =>
        (try subst heq)
        refine ⟨1, ?_⟩
        simp only [HG.out]
        exact row_swap0 w 1 blk off d _ _ HH.out (by omega) (by omega)
  case rest =>
    obtain ⟨D, hD⟩ : ∃ D, D = swp d a q := ⟨_, rfl⟩
    rw [← hD] at hcut HS
    have HA := Lib.hid hcut
    have HPT := Lib.hid HS.out
    obtain ⟨e, he⟩ : ∃ e, e = b - 1 := ⟨_, rfl⟩
    rw [← he] at HPT
    have he2 : (b : Int) - 1 = (e : Int) := by omega
    have he3 : e < b := by omega
    obtain ⟨a1, ha1⟩ : ∃ a1, a1 = a + 1 := ⟨_, rfl⟩
    rw [← ha1] at HPT
    have ha2 : (a : Int) + 1 = (a1 : Int) := by omega
    clear hcut hD he HS ha1
    go_upto_block 0 with fail
    go_cut [10] (fun v wx => ∃ i1 : Nat, v = .int .i64 i1 ∧ RowAt w blk off D wx ∧ Part a b p d i1 (e) D ∧ a1 ≤ i1 ∧ (e < i1 ∨ p ≤ D[i1]!))
    case first =>
      go_wp2_with fail
      go_loopw [10] (fun vi wr => ∃ i1 : Nat, vi = .int .i64 i1 ∧ RowAt w blk off D wr ∧ a1 ≤ i1 ∧ Part a b p d i1 (e) D) (fun vi _ => b - (intOf vi).toNat)
      case atStart => exact ⟨a1, by first | rfl | go_num, HA.out, Nat.le_refl _, HPT.out⟩
      case round =>
        obtain ⟨i1, rfl, hR, hbd, hPt⟩ := hrel
        have h1 := hPt.lo
        have h2 := hPt.meet
        have h3 := hPt.hi
        obtain ⟨hcw0, hfw⟩ := hR.cells HH.out hPt.perm.1 rfl
        obtain ⟨G, hG⟩ : ∃ G : Nat → Int, ∀ x, G x = D[x]! := ⟨fun x => D[x]!, fun _ => rfl⟩
        have hcw : ∀ t, t < d.size → wr.cell? ⟨blk, off + t, none⟩ = some (.int .u64 (G t)) := fun t ht => by rw [hG]; exact hcw0 t ht
        have HG := Lib.hid hG
        have HR := Lib.hid hR
        have HPR := Lib.hid hPt
        clear hG hcw0 hR hPt
        by_cases hle : i1 ≤ e
        · have hle2 : decide ((i1 : Int) ≤ (e : Int)) = true := decide_eq_true (by omega)
          go_wp2_with fail
          go_quiet ((go_at_call 191; refine Calls.quiet_of_same (less_u _ _ _)))
          go_wp2
          · have hl : ltInt (G i1) (G a) = true := by assumption
            rw [HG.out, HG.out, HPR.out.piv] at hl
            have hl2 : D[i1]! < p := by simpa [ltInt] using hl
            go_roundw
            case rel => exact ⟨i1 + 1, by go_num, HR.out.drewN nq, by omega, HPR.out.up hle hl2⟩
            case measure => simp [intOf]; omega
          · have hl : ltInt (G i1) (G a) = false := by assumption
            rw [HG.out, HG.out, HPR.out.piv] at hl
            have hl2 : p ≤ D[i1]! := by simpa [ltInt] using hl
            go_meet
            case rel => exact ⟨i1, rfl, HR.out.drewN nq, HPR.out, by omega, .inr hl2⟩
        · have hle2 : decide ((i1 : Int) ≤ (e : Int)) = false := decide_eq_false (by omega)
          go_wp2_with fail
          go_quiet ((go_at_call 191; refine Calls.quiet_of_same (less_u _ _ _)))
          go_wp2
          go_meet
          case rel => exact ⟨i1, rfl, HR.out.drewN nq, HPR.out, by omega, .inl (by omega)⟩
    case rest =>
      obtain ⟨i1, rfl, hA1, hP1, hbi, hI1⟩ := hcut
      clear HA HPT
      have HA := Lib.hid hA1
      have HPT := Lib.hid hP1
      have HI := Lib.hid hI1
      clear hA1 hP1 hI1
      go_upto_block 2 with fail
      go_cut [11] (fun v wx => ∃ j1 : Nat, v = .int .i64 j1 ∧ RowAt w blk off D wx ∧ Part a b p d (i1) j1 D ∧ j1 ≤ e ∧ (j1 < i1 ∨ D[j1]! < p))
      case first =>
        go_wp2_with fail
        go_loopw [11] (fun vi wr => ∃ j1 : Nat, vi = .int .i64 j1 ∧ RowAt w blk off D wr ∧ j1 ≤ e ∧ Part a b p d (i1) j1 D) (fun vi _ => (intOf vi).toNat)
        case atStart => exact ⟨e, by first | rfl | go_num, HA.out, Nat.le_refl _, HPT.out⟩
        case round =>
          obtain ⟨j1, rfl, hR, hbd, hPt⟩ := hrel
          have h1 := hPt.lo
          have h2 := hPt.meet
          have h3 := hPt.hi
          obtain ⟨hcw0, hfw⟩ := hR.cells HH.out hPt.perm.1 rfl
          obtain ⟨G, hG⟩ : ∃ G : Nat → Int, ∀ x, G x = D[x]! := ⟨fun x => D[x]!, fun _ => rfl⟩
          have hcw : ∀ t, t < d.size → wr.cell? ⟨blk, off + t, none⟩ = some (.int .u64 (G t)) := fun t ht => by rw [hG]; exact hcw0 t ht
          have HG := Lib.hid hG
          have HR := Lib.hid hR
          have HPR := Lib.hid hPt
          clear hG hcw0 hR hPt
          by_cases hle : i1 ≤ j1
          · have hle2 : decide ((i1 : Int) ≤ (j1 : Int)) = true := decide_eq_true (by omega)
            go_wp2_with fail
            go_quiet ((go_at_call 191; refine Calls.quiet_of_same (less_u _ _ _)))
            go_wp2
            · have hl0 : (!ltInt (G j1) (G a)) = true := by assumption
              have hl : ltInt (G j1) (G a) = false := by simpa using hl0
              rw [HG.out, HG.out, HPR.out.piv] at hl
              have hl2 : p ≤ D[j1]! := by simpa [ltInt] using hl
              go_roundw
              case rel => exact ⟨j1 - 1, by (congr 1; omega), HR.out.drewN nq, by omega, HPR.out.down hle hl2⟩
              case measure => simp [intOf]; omega
            · have hl0 : (!ltInt (G j1) (G a)) = false := by assumption
              have hl : ltInt (G j1) (G a) = true := by simpa using hl0
              rw [HG.out, HG.out, HPR.out.piv] at hl
              have hl2 : D[j1]! < p := by simpa [ltInt] using hl
              go_meet
              case rel => exact ⟨j1, rfl, HR.out.drewN nq, HPR.out, by omega, .inr hl2⟩
          · have hle2 : decide ((i1 : Int) ≤ (j1 : Int)) = false := decide_eq_false (by omega)
            go_wp2_with fail
            go_quiet ((go_at_call 191; refine Calls.quiet_of_same (less_u _ _ _)))
            go_wp2
            go_meet
            case rel => exact ⟨j1, rfl, HR.out.drewN nq, HPR.out, by omega, .inl (by omega)⟩
      case rest =>
        obtain ⟨j1, rfl, hA2, hP2, hbj, hJ1⟩ := hcut
        clear HA HPT
        have HA := Lib.hid hA2
        have HPT := Lib.hid hP2
        have HJ := Lib.hid hJ1
        clear hA2 hP2 hJ1
        by_cases hgt : j1 < i1
        · have hgt2 : (j1 : Int) < (i1 : Int) := by omega
          have hdone := HPT.out.done hb hgt
          have h3 := HPT.out.hi
          have h4 := HPT.out.lo
          have h5 := HPT.out.meet
          obtain ⟨hcw0, hfw⟩ := HA.out.cells HH.out HPT.out.perm.1 rfl
          obtain ⟨G, hG⟩ : ∃ G : Nat → Int, ∀ x, G x = D[x]! := ⟨fun x => D[x]!, fun _ => rfl⟩
          have hcj : wc.cell? ⟨blk, off + j1, none⟩ = some (.int .u64 (G j1)) := by rw [hG]; exact hcw0 j1 (by omega)
          have hca : wc.cell? ⟨blk, off + a, none⟩ = some (.int .u64 (G a)) := by rw [hG]; exact hcw0 a (by omega)
          have hfj := hfw j1 (by omega)
          have hfa := hfw a (by omega)
          have HG := Lib.hid hG
          have HDN := Lib.hid hdone
          have hsD : j1 < D.size ∧ a < D.size := by rw [HPT.out.perm.1]; omega
          have HSD := Lib.hid hsD
          clear hG hcw0 hfw hdone hsD h4 h5
          go_wp2_with fail
          by_cases hja : j1 = a
          all_goals
            go_region
            all_goals go_wp2
            go_ret2
            (try subst hja)
            refine ⟨_, true, _, rfl, HDN.out, ?_⟩
            simp only [HG.out]
            exact HA.out.swap 1 _ _ HSD.out.1 HSD.out.2
        · have hgt2 : ¬ ((j1 : Int) < (i1 : Int)) := by omega
          have h1 : p ≤ D[i1]! := (HI.out.resolve_left (by omega))
          have h2 : D[j1]! < p := (HJ.out.resolve_left (by omega))
          obtain ⟨hij, hsw⟩ := HPT.out.swap hb (by omega) h1 h2
          have h3 := HPT.out.hi
          have h4 := HPT.out.lo
          obtain ⟨hcw0, hfw⟩ := HA.out.cells HH.out HPT.out.perm.1 rfl
          obtain ⟨G, hG⟩ : ∃ G : Nat → Int, ∀ x, G x = D[x]! := ⟨fun x => D[x]!, fun _ => rfl⟩
          have hcj : wc.cell? ⟨blk, off + j1, none⟩ = some (.int .u64 (G j1)) := by rw [hG]; exact hcw0 j1 (by omega)
          have hci : wc.cell? ⟨blk, off + i1, none⟩ = some (.int .u64 (G i1)) := by rw [hG]; exact hcw0 i1 (by omega)
          have hfj := hfw j1 (by omega)
          have hfi := hfw i1 (by omega)
          have hsD : i1 < D.size ∧ j1 < D.size := by rw [HPT.out.perm.1]; omega
          have HG := Lib.hid hG
          have HSW := Lib.hid hsw
          have HSD := Lib.hid hsD
          clear hG hcw0 hfw hsw h1 h2 hsD
          go_upto_region 10 with fail
          go_cut [] (fun wx => RowAt w blk off (swp D i1 j1) wx)
          case first =>
            go_region
            all_goals go_wp2_with fail
            all_goals go_meet
            case rel =>
              simp only [HG.out]
              exact HA.out.swap 1 _ _ HSD.out.1 HSD.out.2
          case rest =>
            have hA3 := hcut
            clear hcut HA
            go_wp2_with fail
            go_loopw [10, 11] (fun vi vj wr => ∃ (i j : Nat) (dk : Array Int), vi = .int .i64 i ∧ vj = .int .i64 j ∧ RowAt w blk off dk wr ∧ Part a b p d i j dk) (fun vi vj _ => (intOf vj).toNat + 1 - (intOf vi).toNat)
            case atStart => exact ⟨i1 + 1, j1 - 1, swp D i1 j1, by go_num, by (congr 1; omega), hA3, HSW.out⟩
            case round =>
              obtain ⟨i0, j0, dk, rfl, rfl, hA4, hP4⟩ := hrel
              clear HPT HI HJ
              have HA := Lib.hid hA4
              have HPT := Lib.hid hP4
              have hb0 := hP4.lo
              have hb1 := hP4.meet
              have hb2 := hP4.hi
              clear hA4 hP4 hA3 HSW HG
              go_upto_block 6 with fail
              go_cut [10] (fun v wx => ∃ i1 : Nat, v = .int .i64 i1 ∧ RowAt w blk off dk wx ∧ Part a b p d i1 (j0) dk ∧ i0 ≤ i1 ∧ (j0 < i1 ∨ p ≤ dk[i1]!))
              case first =>
                go_wp2_with fail
                go_loopw [10] (fun vi wr => ∃ i1 : Nat, vi = .int .i64 i1 ∧ RowAt w blk off dk wr ∧ i0 ≤ i1 ∧ Part a b p d i1 (j0) dk) (fun vi _ => b - (intOf vi).toNat)
                case atStart => exact ⟨i0, by first | rfl | go_num, HA.out, Nat.le_refl _, HPT.out⟩
                case round =>
                  obtain ⟨i1, rfl, hR, hbd, hPt⟩ := hrel
                  have h1 := hPt.lo
                  have h2 := hPt.meet
                  have h3 := hPt.hi
                  obtain ⟨hcw0, hfw⟩ := hR.cells HH.out hPt.perm.1 rfl
                  obtain ⟨G, hG⟩ : ∃ G : Nat → Int, ∀ x, G x = dk[x]! := ⟨fun x => dk[x]!, fun _ => rfl⟩
                  have hcw : ∀ t, t < d.size → wr.cell? ⟨blk, off + t, none⟩ = some (.int .u64 (G t)) := fun t ht => by rw [hG]; exact hcw0 t ht
                  have HG := Lib.hid hG
                  have HR := Lib.hid hR
                  have HPR := Lib.hid hPt
                  clear hG hcw0 hR hPt
                  by_cases hle : i1 ≤ j0
                  · have hle2 : decide ((i1 : Int) ≤ (j0 : Int)) = true := decide_eq_true (by omega)
                    go_wp2_with fail
                    go_quiet ((go_at_call 191; refine Calls.quiet_of_same (less_u _ _ _)))
                    go_wp2
                    · have hl : ltInt (G i1) (G a) = true := by assumption
                      rw [HG.out, HG.out, HPR.out.piv] at hl
                      have hl2 : dk[i1]! < p := by simpa [ltInt] using hl
                      go_roundw
                      case rel => exact ⟨i1 + 1, by go_num, HR.out.drewN nq, by omega, HPR.out.up hle hl2⟩
                      case measure => simp [intOf]; omega
                    · have hl : ltInt (G i1) (G a) = false := by assumption
                      rw [HG.out, HG.out, HPR.out.piv] at hl
                      have hl2 : p ≤ dk[i1]! := by simpa [ltInt] using hl
                      go_meet
                      case rel => exact ⟨i1, rfl, HR.out.drewN nq, HPR.out, by omega, .inr hl2⟩
                  · have hle2 : decide ((i1 : Int) ≤ (j0 : Int)) = false := decide_eq_false (by omega)
                    go_wp2_with fail
                    go_quiet ((go_at_call 191; refine Calls.quiet_of_same (less_u _ _ _)))
                    go_wp2
                    go_meet
                    case rel => exact ⟨i1, rfl, HR.out.drewN nq, HPR.out, by omega, .inl (by omega)⟩
              case rest =>
                obtain ⟨i2, rfl, hA1, hP1, hbi2, hI1⟩ := hcut
                clear HA HPT
                have HA := Lib.hid hA1
                have HPT := Lib.hid hP1
                have HI := Lib.hid hI1
                clear hA1 hP1 hI1
                go_upto_block 8 with fail
                go_cut [11] (fun v wx => ∃ j1 : Nat, v = .int .i64 j1 ∧ RowAt w blk off dk wx ∧ Part a b p d (i2) j1 dk ∧ j1 ≤ j0 ∧ (j1 < i2 ∨ dk[j1]! < p))
                case first =>
                  go_wp2_with fail
                  go_loopw [11] (fun vi wr => ∃ j1 : Nat, vi = .int .i64 j1 ∧ RowAt w blk off dk wr ∧ j1 ≤ j0 ∧ Part a b p d (i2) j1 dk) (fun vi _ => (intOf vi).toNat)
                  case atStart => exact ⟨j0, by first | rfl | go_num, HA.out, Nat.le_refl _, HPT.out⟩
                  case round =>
                    obtain ⟨j1, rfl, hR, hbd, hPt⟩ := hrel
                    have h1 := hPt.lo
                    have h2 := hPt.meet
                    have h3 := hPt.hi
                    obtain ⟨hcw0, hfw⟩ := hR.cells HH.out hPt.perm.1 rfl
                    obtain ⟨G, hG⟩ : ∃ G : Nat → Int, ∀ x, G x = dk[x]! := ⟨fun x => dk[x]!, fun _ => rfl⟩
                    have hcw : ∀ t, t < d.size → wr.cell? ⟨blk, off + t, none⟩ = some (.int .u64 (G t)) := fun t ht => by rw [hG]; exact hcw0 t ht
                    have HG := Lib.hid hG
                    have HR := Lib.hid hR
                    have HPR := Lib.hid hPt
                    clear hG hcw0 hR hPt
                    by_cases hle : i2 ≤ j1
                    · have hle2 : decide ((i2 : Int) ≤ (j1 : Int)) = true := decide_eq_true (by omega)
                      go_wp2_with fail
                      go_quiet ((go_at_call 191; refine Calls.quiet_of_same (less_u _ _ _)))
                      go_wp2
                      · have hl0 : (!ltInt (G j1) (G a)) = true := by assumption
                        have hl : ltInt (G j1) (G a) = false := by simpa using hl0
                        rw [HG.out, HG.out, HPR.out.piv] at hl
                        have hl2 : p ≤ dk[j1]! := by simpa [ltInt] using hl
                        go_roundw
                        case rel => exact ⟨j1 - 1, by (congr 1; omega), HR.out.drewN nq, by omega, HPR.out.down hle hl2⟩
                        case measure => simp [intOf]; omega
                      · have hl0 : (!ltInt (G j1) (G a)) = false := by assumption
                        have hl : ltInt (G j1) (G a) = true := by simpa using hl0
                        rw [HG.out, HG.out, HPR.out.piv] at hl
                        have hl2 : dk[j1]! < p := by simpa [ltInt] using hl
                        go_meet
                        case rel => exact ⟨j1, rfl, HR.out.drewN nq, HPR.out, by omega, .inr hl2⟩
                    · have hle2 : decide ((i2 : Int) ≤ (j1 : Int)) = false := decide_eq_false (by omega)
                      go_wp2_with fail
                      go_quiet ((go_at_call 191; refine Calls.quiet_of_same (less_u _ _ _)))
                      go_wp2
                      go_meet
                      case rel => exact ⟨j1, rfl, HR.out.drewN nq, HPR.out, by omega, .inl (by omega)⟩
                case rest =>
                  obtain ⟨j2, rfl, hA2, hP2, hbj2, hJ1⟩ := hcut
                  clear HA HPT
                  have HA := Lib.hid hA2
                  have HPT := Lib.hid hP2
                  have HJ := Lib.hid hJ1
                  clear hA2 hP2 hJ1
                  by_cases hgt : j2 < i2
                  · have hgt2 : (j2 : Int) < (i2 : Int) := by omega
                    have hdone := HPT.out.done hb hgt
                    have h3 := HPT.out.hi
                    have h4 := HPT.out.lo
                    have h5 := HPT.out.meet
                    obtain ⟨hcw0, hfw⟩ := HA.out.cells HH.out HPT.out.perm.1 rfl
                    obtain ⟨G, hG⟩ : ∃ G : Nat → Int, ∀ x, G x = dk[x]! := ⟨fun x => dk[x]!, fun _ => rfl⟩
                    have hcj : wc.cell? ⟨blk, off + j2, none⟩ = some (.int .u64 (G j2)) := by rw [hG]; exact hcw0 j2 (by omega)
                    have hca : wc.cell? ⟨blk, off + a, none⟩ = some (.int .u64 (G a)) := by rw [hG]; exact hcw0 a (by omega)
                    have hfj := hfw j2 (by omega)
                    have hfa := hfw a (by omega)
                    have HG := Lib.hid hG
                    have HDN := Lib.hid hdone
                    have hsD : j2 < dk.size ∧ a < dk.size := by rw [HPT.out.perm.1]; omega
                    have HSD := Lib.hid hsD
                    clear hG hcw0 hfw hdone hsD h4 h5
                    go_wp2_with fail
                    by_cases hja : j2 = a
                    all_goals
                      go_region
                      all_goals go_wp2
                      go_ret2
                      (try subst hja)
                      refine ⟨_, false, _, rfl, HDN.out, ?_⟩
                      simp only [HG.out]
                      exact HA.out.swap 1 _ _ HSD.out.1 HSD.out.2
                  · have hgt2 : ¬ ((j2 : Int) < (i2 : Int)) := by omega
                    have h1 : p ≤ dk[i2]! := (HI.out.resolve_left (by omega))
                    have h2 : dk[j2]! < p := (HJ.out.resolve_left (by omega))
                    obtain ⟨hij, hsw⟩ := HPT.out.swap hb (by omega) h1 h2
                    have h3 := HPT.out.hi
                    have h4 := HPT.out.lo
                    obtain ⟨hcw0, hfw⟩ := HA.out.cells HH.out HPT.out.perm.1 rfl
                    obtain ⟨G, hG⟩ : ∃ G : Nat → Int, ∀ x, G x = dk[x]! := ⟨fun x => dk[x]!, fun _ => rfl⟩
                    have hcj : wc.cell? ⟨blk, off + j2, none⟩ = some (.int .u64 (G j2)) := by rw [hG]; exact hcw0 j2 (by omega)
                    have hci : wc.cell? ⟨blk, off + i2, none⟩ = some (.int .u64 (G i2)) := by rw [hG]; exact hcw0 i2 (by omega)
                    have hfj := hfw j2 (by omega)
                    have hfi := hfw i2 (by omega)
                    have hsD : i2 < dk.size ∧ j2 < dk.size := by rw [HPT.out.perm.1]; omega
                    have HG := Lib.hid hG
                    have HSW := Lib.hid hsw
                    have HSD := Lib.hid hsD
                    clear hG hcw0 hfw hsw h1 h2 hsD
                    go_upto_region 18 with fail
                    go_cut [] (fun wx => RowAt w blk off (swp dk i2 j2) wx)
                    case first =>
                      go_region
                      all_goals go_wp2_with fail
                      all_goals go_meet
                      case rel =>
                        simp only [HG.out]
                        exact HA.out.swap 1 _ _ HSD.out.1 HSD.out.2
                    case rest =>
                      have hA3 := hcut
                      clear hcut HA
                      go_wp2_with fail
                      go_roundw
                      case rel => exact ⟨i2 + 1, j2 - 1, swp dk i2 j2, by go_num, by (congr 1; omega), hA3, HSW.out⟩
                      case measure => simp [intOf]; omega
end Go.Proofs.YtobbfenkdnaanaaGreatDoor
