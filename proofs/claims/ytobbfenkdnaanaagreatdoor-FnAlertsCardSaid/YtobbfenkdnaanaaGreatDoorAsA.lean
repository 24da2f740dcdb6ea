/- impl.sorted and impl.seconds, by contract. -/
import Derived.Test.YtobbfenkdnaanaaGreatDoorSetE
import Derived.Test.YtobbfenkdnaanaaGreatDoorAlC
import Derived.Test.YtobbfenkdnaanaaGreatDoorMetP
set_option linter.unusedVariables false
set_option linter.unusedSimpArgs false
namespace Go.Proofs.YtobbfenkdnaanaaGreatDoor
open Go.RowKit Go.Maps Go.WideMaps Go.Sort Go.Lib

set_option maxHeartbeats 1000000 in
theorem cmp144_calls (p q : ByteArray × ByteArray) (W : World) : Calls Tryz.prog 144 #[.agg (encL p).toArray, .agg (encL q).toArray] W fun e w' => e = .returned (.int .i64 (cfN p q)) ∧ ∃ n os', w' = grow (W.drewN n) os' := by
  obtain ⟨x, u⟩ := p
  obtain ⟨y, v⟩ := q
  show Calls Tryz.prog 144 #[.agg #[.string x, .string u], .agg #[.string y, .string v]] W _
  cases h1 : Op.bytesLess x.toList y.toList with
  | true =>
    have HE := Aside0.mk (show cfN (x, u) (y, v) = -1 by unfold cfN; simp [h1])
    go_enter Tryz.func144, Tryz.ntmps144
    go_wp2
    go_ret
    exact ⟨by rw [HE.out]; rfl, 0, _, by rw [alloc_eq_grow, alloc_eq_grow, grow_grow]; rfl⟩
  | false =>
    cases h2 : (x.toList == y.toList) with
    | true =>
      have HE := Aside0.mk (show cfN (x, u) (y, v) = 0 by unfold cfN; simp only [h1, h2]; rfl)
      go_enter Tryz.func144, Tryz.ntmps144
      go_wp2
      go_ret
      exact ⟨by rw [HE.out]; rfl, 0, _, by rw [alloc_eq_grow, alloc_eq_grow, grow_grow]; rfl⟩
    | false =>
      have HE := Aside0.mk (show cfN (x, u) (y, v) = 1 by unfold cfN; simp only [h1, h2]; rfl)
      go_enter Tryz.func144, Tryz.ntmps144
      go_wp2
      go_ret
      exact ⟨by rw [HE.out]; rfl, 0, _, by rw [alloc_eq_grow, alloc_eq_grow, grow_grow]; rfl⟩
theorem sorts144_calls (g cap : Nat) (l : LL) (w : World) (hH : HoldsK encL 2 w g 0 l.toArray) (hg : g < w.heap.size) (hl : l.length ≤ 1000000) :
    Calls Tryz.prog 78 #[.slice (some ⟨g, 0, none⟩) l.length cap, .func (.func 144) #[] #[]] w fun e w' => e = .returned (.tuple #[]) ∧ ∃ d' n os, PermIn 0 l.length l.toArray d' ∧ SortedIn ltN 0 l.length d' ∧ w' = sortWorldK encL 2 w g 0 n d' os := by
  have hcmp : CmpLays Tryz.prog 144 #[] encL 2 cfN g 0 l.toArray.size w := fun _ _ _ _ x y => cmp144_calls x y _
  have h := AnyQ.slices_SortFunc Tryz.sortF 2 (fun _ => by kernel_rfl) (fun _ => by kernel_rfl) encL encL_len encL_one cfN (by rw [ltOf_cfN]; exact swo_ltN) 144 #[] g 0 cap l.toArray w (enters_of Tryz.func144 (by kernel_rfl) rfl) hcmp hH hg (by rw [List.size_toArray]; omega)
  rw [ltOf_cfN] at h
  exact h

theorem srt_rise {l : LL} (h : Rise l) (d : LL) (hd : d.Perm l) {d' : Array (ByteArray × ByteArray)} (hp : PermIn 0 d.length d.toArray d') (hs : SortedIn ltN 0 d.length d') : d'.toList = l := by
  have hp1 := perm_of_in (d := d.toArray) (d' := d') (by rw [List.size_toArray]; exact hp)
  refine sorted_uniq (hp1.trans hd) ?_ (pairwise_of_sorted (by rw [hp.1]; rw [List.size_toArray]; exact hs)) ?_
  · exact (List.Perm.nodup_iff ((hp1.trans hd).map _)).2 (once_of_rise h)
  · refine h.imp fun {p q} hlt => ?_
    unfold ltN ltStr
    exact decide_eq_false (fun hgt => List.lt_irrefl _ (List.lt_trans hlt hgt))

set_option maxHeartbeats 2000000 in
set_option maxRecDepth 100000 in
theorem sortedM_calls (b n : Nat) (l : LL) (w : World) (hm : MapIs w b n l) (hs : Sized l) (hr : Rise l) :
    Calls Tryz.prog 86 #[.map (some b)] w fun e w' => ∃ g c, e = .returned (.slice (some ⟨g, 0, none⟩) l.length c) ∧ Labs w' (some ⟨g, 0, none⟩) l ∧ w.heap.size ≤ g ∧ Below w.heap.size w w' := by
  have HM := Aside0.mk hm
  have HS := Aside0.mk hs
  have HRI := Aside0.mk hr
  have HR0 := Aside0.mk (rowLb_empty w)
  have HK := Aside0.mk (below_alloc (Below.refl w.heap.size w) (Obj.cells #[] 70))
  have hbl := hm.lt
  have hlen := hs.1
  obtain ⟨i0, hi, hz0, hz1, hz2⟩ := info_parts infoLb
  have HI := Aside0.mk (And.intro hi (And.intro hz0 (And.intro hz1 hz2)))
  clear hm hs hr hi hz0 hz1 hz2
  go_enter Tryz.func86, Tryz.ntmps86
  go_wp2_with (at_range; refine wpList_range_label _ rfl _ 74 rfl Tryz.underlying74 b n l rfl (HM.out.alloc _) ?_; intro w0 hrg0 hg0 hs0; have HRG := Aside0.mk hrg0; have HG0 := Aside0.mk (And.intro hg0 hs0); clear hrg0 hg0 hs0)
  go_frame
  have HB0 := Aside0.mk (HK.out.grown HG0.out.1 (by simp) (fun k hk => by cases hk))
  have HR1 := Aside0.mk (show RowLb w0 w.heap.size (.slice (some ⟨w.heap.size, 0, none⟩) 0 0) [] from World.ownsRow.kept HR0.out HG0.out.1 (Or.inr (by simp [Value.ownBlock])))
  have HR := HRG.out
  have e1 : (w.alloc (Obj.cells #[] 70)).heap.size = w.heap.size + 1 := by simp
  rw [e1] at HR ⊢
  have HRG := Aside0.mk HR
  clear HR e1
  go_loopg [3, 5] l.length (fun g v3 v5 w' => ∃ d : LL, Aside0 (RangeIs w' b (w.heap.size + 1) n l d g) ∧ Aside0 (RowLb w' w.heap.size v3 d) ∧ Aside0 (v3 ≠ .slice none 0 0) ∧ Aside0 (Below w.heap.size w w'))
  case atStart => exact ⟨[], HRG, HR1, ⟨by simp⟩, HB0⟩
  case round =>
    obtain ⟨d, HRN, HO, HV, HBW⟩ := hrel
    obtain ⟨g, c, hu, hbase, hgl⟩ := HO.out.form HV.out
    subst hu
    go_wp2_with (at_next; refine wpList_next_label _ rfl _ rfl b (w.heap.size + 1) n l d gk rfl HRN.out ?_ ?_)
    · intro hperm
      have HP := Aside0.mk hperm
      have hH := holds_of_row HO.out
      have hdl : d.length = l.length := hperm.length_eq
      have HSO := Aside0.mk (show Calls Tryz.prog 78 #[.slice (some ⟨g, 0, none⟩) d.length c, .func (.func 144) #[] #[]] wr fun e w' => e = .returned (.tuple #[]) ∧ Labs w' (some ⟨g, 0, none⟩) l ∧ Below w.heap.size w w' from by
        refine (sorts144_calls g c d wr hH hgl (by omega)).mono ?_
        rintro e w' ⟨rfl, d', m, os, hp, hsd, rfl⟩
        have hg := grownBy_sortedL (w := wr) (g := g) (n := m) (os := os) d'
        have hd := srt_rise HRI.out d HP.out hp hsd
        exact ⟨rfl, by rw [← hd]; exact labs_of_holds (holdsK_sortWorldK encL 2 wr g 0 m d.toArray d' os hgl hH hp.1) (lt_sortWorldK encL 2 wr g 0 m d' os hgl), HBW.out.grown hg HBW.out.size (fun k hk => by cases hk; exact hbase)⟩)
      have HDL := Aside0.mk hdl
      have HGB := Aside0.mk hbase
      clear hperm hH hdl hbase hgl
      go_wp2_with (go_at_call 78; refine HSO.out.mono ?_; rintro e w2 ⟨rfl, hpost⟩; have HPO := Aside0.mk hpost; clear hpost)
      go_ret
      exact ⟨g, c, by rw [← HDL.out]; rfl, HPO.out.1, HGB.out, HPO.out.2⟩
    · intro x v w9 cnt1 hlx hdx hxl hrg1 hlt hg1 hs1 hen
      have hdl := HRN.out.count
      have HB9 := Aside0.mk (HBW.out.grown hg1 HBW.out.size (fun k hk => by cases hk; omega))
      have HR9 := Aside0.mk (show RowLb w9 w.heap.size (.slice (some ⟨g, 0, none⟩) d.length c) d from World.ownsRow.kept HO.out hg1 (Or.inr (HO.out.ne_iter HRN.out).symm))
      have HRG1 := Aside0.mk hrg1
      have HDL := Aside0.mk (show d.length ≤ 20 by omega)
      clear hlx hdx hxl hrg1 hg1 hs1 hdl hbase hgl
      go_wp2_with (at_builtin; refine wpList_append_own _ rfl _ _ 22 rfl w.heap.size 70 i0 (.agg #[.string ⟨#[]⟩, .string ⟨#[]⟩]) 2 32 Tryz.underlying22 HI.out.1 HI.out.2.1 HI.out.2.2.1 HI.out.2.2.2 rfl (by decide) _ _ _ rfl (World.ownsRow.alloc HR9.out _) ⟨w9.heap.size, 0, none⟩ 1 1 [.string x, .string v] rfl rfl (cell_two_new _ _ _ _) (by simp [Value.oneCell']) (by have := HDL.out; unfold maxLen; omega) (by have := HDL.out; omega) (by have := HB9.out.size; simp; omega) ?_; intro v' w10 hown' hg10 hnil10; have HX10 := Aside0.mk (And.intro hown' (And.intro hg10 hnil10)); clear hown' hg10 hnil10)
      try go_frame
      go_roundg cnt1
      case measure => exact hlt
      case rel =>
        obtain ⟨hown', hg10, hnil10⟩ := HX10.out
        refine ⟨d ++ [(x, v)], ⟨(HRG1.out.alloc _).kept hg10 (HR9.out.ne_map HRG1.out.map) (HR9.out.ne_iter HRG1.out)⟩, ⟨?_⟩, ⟨fun e => by have := (hnil10.1 e).1; cases this⟩, ⟨(below_alloc HB9.out _).grown hg10 (by have := HB9.out.size; simp; omega) (fun k hk => (World.ownsRow.lt HR9.out k hk).1)⟩⟩
        unfold RowLb
        rw [List.length_append, cellsL_append]
        exact hown'

set_option maxHeartbeats 1000000 in
set_option maxRecDepth 100000 in
theorem tunix_calls (s : Int) (h0 : 0 ≤ s) (h1 : s ≤ 8589934592) (w : World) :
    Calls Tryz.prog 145 #[.agg #[.int .i64 (s + 62135596800), .int .i64 0]] w fun e w' => e = .returned (.int .i64 s) ∧ Below w.heap.size w w' := by
  have hw : IntKind.i64.wrap (s + 62135596800 - 62135596800) = s := by
    rw [show s + 62135596800 - 62135596800 = s by omega]
    simp [IntKind.wrap, IntKind.bits, IntKind.signed]
    omega
  go_enter Tryz.func145, Tryz.ntmps145
  go_wp2
  refine bodyPost_ret (v := .int .i64 s) (by simp [results, Tryz.results145, go_sem]) rfl ⟨rfl, ?_⟩
  exact below_alloc (Below.refl _ _) _

set_option maxHeartbeats 1000000 in
set_option maxRecDepth 100000 in
theorem seconds_calls (s : Int) (h0 : 0 ≤ s) (h1 : s ≤ 8589934592) (w : World) :
    Calls Tryz.prog 87 #[.agg #[.int .i64 (momS s), .int .i64 0]] w fun e w' => e = .returned (.int .i64 s) ∧ Below w.heap.size w w' := by
  have HK := Aside0.mk (below_alloc (Below.refl w.heap.size w) (Obj.cells #[Value.int .i64 (momS s), Value.int .i64 0] 85))
  by_cases hs : s = 0
  · subst hs
    have hm : momS 0 = 0 := rfl
    rw [hm] at HK ⊢
    go_enter Tryz.func87, Tryz.ntmps87
    go_wp2_with fail
    refine (isZero_calls 0 _).mono ?_
    rintro e w1 ⟨rfl, hb1⟩
    have HB1 := Aside0.mk (below_step HK.out hb1); clear hb1
    rw [decide_eq_true rfl]
    go_wp2
    go_ret
    exact ⟨rfl, HB1.out⟩
  · have hm : momS s = s + 62135596800 := if_neg hs
    rw [hm] at HK ⊢
    clear hm
    have HNZ := Aside0.mk (show ¬ s + 62135596800 = 0 by omega)
    clear hs
    go_enter Tryz.func87, Tryz.ntmps87
    go_wp2_with fail
    refine (isZero_calls _ _).mono ?_
    rintro e w1 ⟨rfl, hb1⟩
    rw [decide_eq_false HNZ.out]
    have k0 := hb1.cell (p := ⟨w.heap.size, 0, none⟩) (by simp)
    have k1 := hb1.cell (p := ⟨w.heap.size, 1, none⟩) (by simp)
    simp [go_sem] at k0 k1
    have HB1 := Aside0.mk (below_step HK.out hb1); clear hb1
    go_wp2_with fail
    refine (tunix_calls s h0 h1 _).mono ?_
    rintro e w2 ⟨rfl, hb2⟩
    have HB2 := Aside0.mk (below_step HB1.out hb2); clear hb2
    go_wp2
    go_ret
    exact ⟨rfl, HB2.out⟩
end Go.Proofs.YtobbfenkdnaanaaGreatDoor
