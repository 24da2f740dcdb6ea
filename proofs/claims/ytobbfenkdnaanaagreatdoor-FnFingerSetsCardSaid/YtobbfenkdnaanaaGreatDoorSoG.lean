/- slices' sort of at most 20 different numbers, by contract: the row is sorted. -/
import Derived.Test.YtobbfenkdnaanaaGreatDoorWords
import Derived.Test.YtobbfenkdnaanaaGreatDoorSoC
import Derived.Test.YtobbfenkdnaanaaGreatDoorSoD
import Derived.Test.YtobbfenkdnaanaaGreatDoorSoF
set_option linter.unusedVariables false
set_option linter.unusedSimpArgs false
namespace Go.Proofs.YtobbfenkdnaanaaGreatDoor
open Go.RowKit Go.Sort

/-- A world in which the row holds dk, with new blocks behind it; nothing else has turned. -/
def GrowAt (w : World) (blk off : Nat) (dk : Array Int) (wx : World) : Prop := ∃ m os, wx = grow (putRow U64 (Sort.ahead w m) blk off dk) os

theorem GrowAt.start {w : World} {blk off : Nat} {d : Array Int} (h : Holds U64 w blk off d) : GrowAt w blk off d w := ⟨0, #[], by rw [grow_empty, show Sort.ahead w 0 = w from rfl, putRow_self _ _ _ _ _ h]⟩
theorem GrowAt.holds {w wx : World} {blk off : Nat} {d dk : Array Int} (h : GrowAt w blk off dk wx) (hH : Holds U64 w blk off d) (hs : dk.size = d.size) (hb : blk < w.heap.size) : Holds U64 wx blk off dk ∧ blk < wx.heap.size := by
  obtain ⟨m, os, rfl⟩ := h
  have hz : blk < (putRow U64 (Sort.ahead w m) blk off dk).heap.size := by simpa using hb
  exact ⟨holds_grow _ _ _ _ _ _ hz (holds_putRow U64 (Sort.ahead w m) blk off d dk (holds_ahead _ _ _ _ _ _ hH) hs), by simp; omega⟩
theorem GrowAt.row {w wx w' : World} {blk off : Nat} {dk d' : Array Int} (h : GrowAt w blk off dk wx) (hb : blk < w.heap.size) (hs : d'.size = dk.size) (h2 : ∃ n, w' = putRow U64 (Sort.ahead wx n) blk off d') : GrowAt w blk off d' w' := by
  obtain ⟨m, os, rfl⟩ := h
  obtain ⟨n, rfl⟩ := h2
  exact ⟨m + n, os, grow_step _ _ _ _ _ _ _ _ _ hb hs⟩
theorem GrowAt.rowG {w wx w' : World} {blk off : Nat} {dk d' : Array Int} (h : GrowAt w blk off dk wx) (hb : blk < w.heap.size) (hs : d'.size = dk.size) (h2 : GrowAt wx blk off d' w') : GrowAt w blk off d' w' := by
  obtain ⟨m, os, rfl⟩ := h
  obtain ⟨n, os', rfl⟩ := h2
  exact ⟨m + n, os ++ os', grow_step_grow _ _ _ _ _ _ _ _ _ _ hb hs⟩
theorem GrowAt.same {w wx w' : World} {blk off : Nat} {dk : Array Int} (h : GrowAt w blk off dk wx) (h2 : ∃ n os, w' = grow (Sort.ahead wx n) os) : GrowAt w blk off dk w' := by
  obtain ⟨m, os, rfl⟩ := h
  obtain ⟨n, os', rfl⟩ := h2
  exact ⟨m + n, os ++ os', by rw [ahead_grow, grow_grow, ← putRow_ahead, ahead_ahead]⟩
theorem GrowAt.drew {w wx : World} {blk off : Nat} {dk : Array Int} (h : GrowAt w blk off dk wx) (n : Nat) : GrowAt w blk off dk (wx.drewN n) := h.same ⟨n, #[], by rw [grow_empty]; rfl⟩

/-- What the sort hands on. -/
def SortQ (w : World) (blk off a b : Nat) (d : Array Int) (e : Ending) (w' : World) : Prop :=
  e = .returned (.tuple #[]) ∧ ∃ d', PermIn a b d d' ∧ SortedIn ltInt a b d' ∧ GrowAt w blk off d' w'

theorem swo_ltInt : SWO ltInt where
  irrefl x := by simp [ltInt]
  trans x y z h1 h2 := by simp only [ltInt, decide_eq_true_eq] at *; omega
  ntrans x y z h1 h2 := by simp only [ltInt, decide_eq_false_iff_not] at *; omega

set_option maxHeartbeats 6400000 in
set_option maxRecDepth 1000000 in
theorem pdq_u : ∀ (N blk off cap a b limit : Nat) (d : Array Int) (n : Nat) (w : World), b - a < N → d.size = n → Holds U64 w blk off d → blk < w.heap.size → a ≤ b → b ≤ d.size → n ≤ 1000000 → b ≤ a + 20 → Nod a b d → Above a b d →
    b - a ≤ 2 * limit + 12 → limit ≤ 100 →
    Calls Tryz.prog 139 #[.slice (some ⟨blk, off, none⟩) n cap, .int .i64 a, .int .i64 b, .int .i64 limit] w fun e w' => SortQ w blk off a b d e w' := by
  intro N
  induction N with
  | zero => intro _ _ _ _ _ _ _ _ _ h; exact absurd h (Nat.not_lt_zero _)
  | succ N ih =>
    intro blk off cap a b limit d n w hN hn hH hblk hab hb hsz h20 hNod hAb hlm hl1
    subst hn
    have HF := Aside0.mk (And.intro hNod hAb)
    have HH := Aside0.mk hH
    clear hNod hAb hH
    go_enter Tryz.func139, Tryz.ntmps139
    go_wp2
    go_loopg [1, 2, 3, 8, 9] (b - a) (fun k s1 s2 s3 s8 s9 wr => ∃ (a' b' lim : Nat) (wb wp : Bool) (dk : Array Int), s1 = .int .i64 a' ∧ s2 = .int .i64 b' ∧ s3 = .int .i64 lim ∧ s8 = .bool wb ∧ s9 = .bool wp ∧
      b' - a' ≤ k ∧ k ≤ b - a ∧ lim ≤ 100 ∧ b' - a' + (if wb then 0 else 2) ≤ 2 * lim + 12 ∧ Aside0 (Rest a b d a' b' dk) ∧ Aside0 (Nod a' b' dk ∧ Above a' b' dk) ∧ Aside0 (GrowAt w blk off dk wr))
    case atStart => exact ⟨a, b, limit, true, true, d, rfl, rfl, rfl, rfl, rfl, Nat.le_refl _, Nat.le_refl _, hl1, by simpa using hlm, ⟨rest_start _ _ _ hab⟩, HF, ⟨GrowAt.start HH.out⟩⟩
    case round =>
      obtain ⟨a', b', lim, wb, wp, dk, rfl, rfl, rfl, rfl, rfl, hk, hkN, hlim, hwl, HR, HD, HA⟩ := hrel
      obtain ⟨ha0, hab', hb0, hds, _⟩ := HR.out
      obtain ⟨hHk, hblk'⟩ := HA.out.holds HH.out hds hblk
      have HHK := Aside0.mk (And.intro hHk hblk')
      have HDS := Aside0.mk hds
      clear hHk hblk' hds
      have hwl2 : b' - a' ≤ 2 * lim + 12 := Nat.le_trans (Nat.le_add_right _ _) hwl
      by_cases h12 : b' - a' ≤ 12
      · have h12z : (b' : Int) - (a' : Int) ≤ 12 := by omega
        have hc := ins_u blk off cap a' b' dk wr HHK.out.1 hab' (by rw [HDS.out]; omega) (by rw [HDS.out]; omega)
        rw [HDS.out] at hc
        have HC := Aside0.mk hc
        clear hc
        go_wp2_with (go_at_call 185; refine HC.out.mono ?_; rintro e w1 ⟨rfl, hw1⟩)
        go_end0
        have hi := insertionSort_holds (lt := ltInt) swo_ltInt dk a' b' hab' (by rw [HDS.out]; omega)
        have hr := rest_done HR.out hi.1 hi.2
        exact ⟨rfl, _, hr.1, hr.2, HA.out.row hblk hi.1.1 hw1⟩
      · have h12z : ¬ ((b' : Int) - (a' : Int) ≤ 12) := by omega
        have hl0z : ((lim : Int) == 0) = false := by simp; omega
        have hl1z : 1 ≤ lim := by omega
        go_upto_if 35 with fail
        go_cut [3] from 19 to 133 (fun s3 wc => ∃ (l2 : Nat) (d1 : Array Int), s3 = .int .i64 l2 ∧ l2 ≤ 100 ∧ b' - a' ≤ 2 * l2 + 12 ∧ Aside0 (PermIn a' b' dk d1) ∧ Aside0 (GrowAt w blk off d1 wc))
        case first =>
          cases wb with
          | false =>
            have hc := break_u blk off cap a' b' dk d.size HDS.out wr HHK.out.1 HHK.out.2 (by omega) (by omega) (by rw [HDS.out]; omega) hsz
            have HC := Aside0.mk hc
            clear hc
            go_wp2_with (go_at_call 187; refine HC.out.mono ?_; rintro e w1 ⟨rfl, d1, hp1, hw1⟩)
            go_meet
            case rel => exact ⟨lim - 1, d1, by (congr 1; omega), by omega, by simp at hwl; omega, ⟨hp1⟩, ⟨HA.out.rowG hblk hp1.1 hw1⟩⟩
          | true =>
            go_wp2_with fail
            go_meet
            case rel => exact ⟨lim, dk, rfl, hlim, hwl2, ⟨permIn_refl _ _ _⟩, HA⟩
        case rest =>
          obtain ⟨l2, d1, rfl, hl2, hw2, HP1, HA1⟩ := hcut
          have hb2 : b' ≤ dk.size := by rw [HDS.out]; omega
          have hR1 := rest_perm HR.out HP1.out
          have hN1 := nod_perm hb2 HP1.out HD.out.1
          have hV1 := above_perm hb2 HP1.out HD.out.2
          have hs1 : d1.size = d.size := HP1.out.1.trans HDS.out
          obtain ⟨hH1, hblk1⟩ := HA1.out.holds HH.out hs1 hblk
          have hc := pivot_u d1 d.size hs1 blk off cap a' b' wc hH1 hblk1 (by omega) (by omega) (by omega) hsz hN1
          have HC := Aside0.mk hc
          have HR1 := Aside0.mk hR1
          have HD1 := Aside0.mk (And.intro hN1 hV1)
          have HS1 := Aside0.mk hs1
          clear hc hR1 hN1 hV1 hs1 hH1 hblk1 hb2 HR HD HA HHK HDS HP1 hwl hwl2 hlim
          go_upto_region 11 with (go_at_call 188; refine HC.out.mono ?_; rintro e w2 ⟨p, h, rfl, hpb, hh1, hx, hy, hw2'⟩)
          have HA2 := Aside0.mk (HA1.out.same hw2')
          have HXY := Aside0.mk (And.intro hx hy)
          have hh2 : ((h : Int) == 2) = false := by simp; omega
          clear hx hy hw2' HA1 HC
          go_upto_region 15 with fail
          go_cut [12, 68] from 19 to 133 (fun s12 s68 wx => s12 = .int .i64 h ∧ (∃ g : Bool, s68 = .bool g) ∧ wx = w2)
          case first =>
            have h01 : h = 0 ∨ h = 1 := by omega
            clear hh2 hh1
            cases wb <;> cases wp <;> rcases h01 with rfl | rfl <;> (go_wp2_with fail; go_meet; exact ⟨rfl, ⟨_, rfl⟩, rfl⟩)
          case rest =>
            obtain ⟨rfl, ⟨g, rfl⟩, rfl⟩ := hcut
            go_upto_if 68 with fail
            go_cut [] from 19 to 133 (fun wx => Aside0 (GrowAt w blk off d1 wx))
            case first =>
              cases g with
              | false =>
                go_wp2_with fail
                go_meet
                case rel => exact HA2
              | true =>
                obtain ⟨hH2, hblk2⟩ := HA2.out.holds HH.out HS1.out hblk
                have hc := partins_u blk off cap a' b' d1 d.size HS1.out wc hH2 (by omega) (by omega) (by rw [HS1.out]; omega) hsz
                have HC := Aside0.mk hc
                clear hc hH2 hblk2
                go_wp2_with (go_at_call 190; refine HC.out.mono ?_; rintro e w3 ⟨r, rfl, hr, hw3⟩; have HR3 := Aside0.mk hr; clear hr; have HW3 := Aside0.mk (HA2.out.same (by obtain ⟨n, hn⟩ := hw3; exact ⟨n, #[], by rw [grow_empty]; exact hn⟩)); clear hw3; cases r)
                · go_meet
                  case rel => exact HW3
                · go_end0
                  have hr := rest_done HR1.out (permIn_refl _ _ _) (HR3.out (by first | rfl | trivial))
                  exact ⟨rfl, _, hr.1, hr.2, HW3.out⟩
            case rest =>
              have HA3 := hcut
              clear hcut HA2
              obtain ⟨hH3, hblk3⟩ := HA3.out.holds HH.out HS1.out hblk
              obtain ⟨G, hG⟩ : ∃ G : Nat → Int, ∀ x, G x = d1[x]! := ⟨fun x => d1[x]!, fun _ => rfl⟩
              have HG := Aside0.mk hG
              have HH3 := Aside0.mk (And.intro hH3 hblk3)
              clear hG hH3 hblk3
              go_upto_region 17 with fail
              go_cut [87] from 19 to 133 (fun s87 wx => s87 = .bool false ∧ Aside0 (GrowAt w blk off d1 wx))
              case first =>
                rcases Nat.eq_zero_or_pos a' with ha0 | ha0
                · have ha0z : decide ((a' : Int) > 0) = false := decide_eq_false (by omega)
                  go_quiet ((go_at_call 191; refine Calls.quiet_of_same (less_u _ _ _)))
                  go_wp2_with fail
                  go_meet
                  case rel => exact ⟨rfl, ⟨HA3.out.drew nq⟩⟩
                · have ha0z : (a' : Int) > 0 := by omega
                  have hca : wc.cell? ⟨blk, off + (a' - 1), none⟩ = some (.int .u64 (G (a' - 1))) := by rw [HG.out]; exact (HH3.out.1 (a' - 1) (by rw [HS1.out]; omega)).1
                  have hcp : wc.cell? ⟨blk, off + p, none⟩ = some (.int .u64 (G p)) := by rw [HG.out]; exact (HH3.out.1 p (by rw [HS1.out]; omega)).1
                  have hlt : ltInt (G (a' - 1)) (G p) = true := by
                    rw [HG.out, HG.out]
                    have := (HD1.out.2.resolve_left (by omega)) p hpb.1 hpb.2
                    simpa [ltInt] using this
                  go_quiet ((go_at_call 191; refine Calls.quiet_of_same (less_u _ _ _)))
                  go_wp2_with fail
                  go_meet
                  case rel => exact ⟨by simp [hlt], ⟨HA3.out.drew nq⟩⟩
              case rest =>
                obtain ⟨rfl, HA4⟩ := hcut
                obtain ⟨hH4, hblk4⟩ := HA4.out.holds HH.out HS1.out hblk
                have hc := part_u blk off cap a' b' p d1 d.size HS1.out wc hH4 hpb.1 hpb.2 (by omega) (by rw [HS1.out]; omega) hsz
                have HC := Aside0.mk hc
                clear hc hH4 hblk4 HA3 HH3 HG
                go_upto_if 113 with (go_at_call 193; refine HC.out.mono ?_; rintro e w5 ⟨mid, f, d4, rfl, hP, hw5⟩; have hlo := hP.lo; have hhi := hP.hi)
                obtain ⟨⟨x, hx0, hx1, hx2⟩, ⟨y, hy0, hy1, hy2⟩⟩ := HXY.out
                have hin := hP.inner (by rw [HS1.out]; omega) x y ⟨hx0, hx1, hx2⟩ ⟨hy0, hy1, hy2⟩
                have hs4 : d4.size = d.size := hP.perm.1.trans HS1.out
                have HA5 := Aside0.mk (HA4.out.row hblk hP.perm.1 hw5)
                obtain ⟨hH5, hblk5⟩ := HA5.out.holds HH.out hs4 hblk
                have hN4 := nod_perm (by rw [HS1.out]; omega) hP.perm HD1.out.1
                have hV4 := above_perm (by rw [HS1.out]; omega) hP.perm HD1.out.2
                have HP4 := Aside0.mk hP
                clear hP hw5 HC HXY hx0 hx1 hx2 hy0 hy1 hy2 HA4
                by_cases h4 : mid - a' < b' - mid
                · have h4z : (mid : Int) - (a' : Int) < (b' : Int) - (mid : Int) := by omega
                  have hih := ih blk off cap a' mid l2 d4 d.size w5 (by omega) hs4 hH5 hblk5 (by omega) (by omega) hsz (by omega) (nod_sub hN4 (Nat.le_refl _) (by omega)) (by rcases hV4 with hv | hv; exact .inl hv; exact .inr fun i i1 i2 => hv i i1 (by omega)) (by omega) hl2
                  have HIH := Aside0.mk hih
                  have HS4 := Aside0.mk hs4
                  have HIN := Aside0.mk hin
                  clear hih hH5 hblk5 hN4 hV4 hs4
                  go_wp2_with (go_at_call 139; refine HIH.out.mono ?_; rintro e w6 ⟨rfl, d5, hp5, hs5, hw6⟩)
                  go_roundg (b' - (mid + 1))
                  case measure => omega
                  case rel =>
                    have hbs : b' ≤ d1.size := by rw [HS1.out]; omega
                    have hR5 := rest_left hbs HR1.out HP4.out hp5 hs5
                    have hn5 : Nod (mid + 1) b' d5 := by
                      have q1 := permIn_mono d4 d5 a' mid a' b' (Nat.le_refl _) (by omega) (by rw [HS4.out]; omega) hp5
                      exact nod_sub (nod_perm (by rw [HS4.out]; omega) q1 (nod_perm hbs HP4.out.perm HD1.out.1)) (by omega) (Nat.le_refl _)
                    refine ⟨mid + 1, b', l2, decide (((b' : Int) - (a' : Int)) / 8 ≤ (mid : Int) - (a' : Int)), f, d5, by simp, rfl, rfl, rfl, rfl, Nat.le_refl _, by omega, hl2, ?_, ⟨hR5⟩, ⟨hn5, above_right hbs HD1.out.1 HP4.out hp5⟩, ⟨HA5.out.rowG hblk hp5.1 hw6⟩⟩
                    split <;> omega
                · have h4z : ¬ ((mid : Int) - (a' : Int) < (b' : Int) - (mid : Int)) := by omega
                  have hih := ih blk off cap (mid + 1) b' l2 d4 d.size w5 (by omega) hs4 hH5 hblk5 (by omega) (by omega) hsz (by omega) (nod_sub hN4 (by omega) (Nat.le_refl _)) (above_right (by rw [HS1.out]; omega) HD1.out.1 HP4.out (permIn_refl _ _ _)) (by omega) hl2
                  have HIH := Aside0.mk hih
                  have HS4 := Aside0.mk hs4
                  have HIN := Aside0.mk hin
                  clear hih hH5 hblk5 hN4 hV4 hs4
                  go_wp2_with (go_at_call 139; refine HIH.out.mono ?_; rintro e w6 ⟨rfl, d5, hp5, hs5, hw6⟩)
                  go_roundg (mid - a')
                  case measure => omega
                  case rel =>
                    have hbs : b' ≤ d1.size := by rw [HS1.out]; omega
                    have hR5 := rest_right hbs HR1.out HP4.out hp5 hs5
                    have hn5 : Nod a' mid d5 := by
                      have q1 := permIn_mono d4 d5 (mid + 1) b' a' b' (by omega) (Nat.le_refl _) (by rw [HS4.out]; omega) hp5
                      exact nod_sub (nod_perm (by rw [HS4.out]; omega) q1 (nod_perm hbs HP4.out.perm HD1.out.1)) (Nat.le_refl _) (by omega)
                    refine ⟨a', mid, l2, decide (((b' : Int) - (a' : Int)) / 8 ≤ (b' : Int) - (mid : Int)), f, d5, rfl, rfl, rfl, rfl, rfl, Nat.le_refl _, by omega, hl2, ?_, ⟨hR5⟩, ⟨hn5, above_left hbs HD1.out.2 HP4.out hp5⟩, ⟨HA5.out.rowG hblk hp5.1 hw6⟩⟩
                    split <;> omega

/-- slices.Sort over at most 20 different numbers. -/
theorem sort_u (blk off cap : Nat) (d : Array Int) (w : World) (hH : Holds U64 w blk off d) (hblk : blk < w.heap.size) (h20 : d.size ≤ 20) (hN : Nod 0 d.size d) :
    Calls Tryz.prog 73 #[.slice (some ⟨blk, off, none⟩) d.size cap] w fun e w' => SortQ w blk off 0 d.size d e w' := by
  have hb := fun w => Tryz.bits_Len (d.size : Int) w (by omega) (by omega)
  rw [Int.toNat_natCast] at hb
  have hl : ∀ n : Nat, n ≤ 20 → n ≤ 2 * Lib.bitLen n + 12 ∧ Lib.bitLen n ≤ 100 := by decide
  obtain ⟨l1, l2⟩ := hl _ h20
  have hc := pdq_u (d.size + 1) blk off cap 0 d.size (Lib.bitLen d.size) d d.size w (by omega) rfl hH hblk (Nat.zero_le _) (Nat.le_refl _) (by omega) (by omega) hN (.inl rfl) (by omega) l2
  have HC := Aside0.mk hc
  clear hc hH hN l1 l2 hl
  go_enter Tryz.func73, Tryz.ntmps73
  go_wp2_with (first | (go_at_call 68; refine (hb _).mono ?_; rintro e w' ⟨rfl, rfl⟩) | (go_at_call 139; refine HC.out.mono ?_; rintro e w6 ⟨rfl, d5, hp5, hs5, hw6⟩))
  go_end0
  exact ⟨rfl, d5, hp5, hs5, hw6⟩
end Go.Proofs.YtobbfenkdnaanaaGreatDoor
