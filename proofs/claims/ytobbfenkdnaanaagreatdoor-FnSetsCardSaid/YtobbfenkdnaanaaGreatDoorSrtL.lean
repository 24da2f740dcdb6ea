/- The reference's Sorted, by contract. -/
import Derived.Test.YtobbfenkdnaanaaGreatDoorStabA
import Derived.Test.YtobbfenkdnaanaaGreatDoorMrgF
import Derived.Deep.QuietTactic
set_option linter.unusedVariables false
set_option linter.unusedSimpArgs false
namespace Go.Proofs.YtobbfenkdnaanaaGreatDoor
open Go.RowKit Go.Maps Go.WideMaps Go.Sort Go.Lib

theorem holds_of_row {w : World} {base g cap n : Nat} {l : LL} (h : RowLb w base (.slice (some ⟨g, 0, none⟩) n cap) l) : HoldsK encL 2 w g 0 l.toArray := by
  obtain ⟨_, rfl⟩ := h.labs
  have h' : w.ownsRow base 70 2 (.slice (some ⟨g, 0, none⟩) l.length cap) l.length (cellsL l) := h
  intro j hj
  rw [size_flatK, List.size_toArray] at hj
  have hi : j / 2 < l.length := by omega
  rw [get_flatK _ _ _ _ (by rw [List.size_toArray]; exact hj), Nat.zero_add]
  refine ⟨?_, h'.frozenAt j⟩
  rw [h'.cellAt j hj, getElem!_pos l.toArray (j / 2) (by simpa using hi)]
  have hc := cellsL_get l (j / 2) hi
  rcases (show j % 2 = 0 ∨ j % 2 = 1 by omega) with e | e
  · rw [e]
    have e2 : j / 2 * 2 = j := by omega
    rw [e2] at hc
    rw [hc.1]
    simp [encL]
  · rw [e]
    have e2 : j / 2 * 2 + 1 = j := by omega
    rw [e2] at hc
    rw [hc.2]
    simp [encL]
theorem labs_of_holds {w : World} {blk : Nat} {d : Array (ByteArray × ByteArray)} (h : HoldsK encL 2 w blk 0 d) (hb : blk < w.heap.size) : Labs w (some ⟨blk, 0, none⟩) d.toList := by
  refine .inr ⟨blk, 0, rfl, hb, fun i hi => ?_⟩
  have hi' : i < d.size := by simpa using hi
  have h0 := (h.cell (i := i) (c := 0) hi' (by omega)).1
  have h1 := (h.cell (i := i) (c := 1) hi' (by omega)).1
  rw [getElem!_pos d i hi'] at h0 h1
  exact ⟨by simpa [encL] using h0, by simpa [encL] using h1⟩

theorem ltN_is (p q : ByteArray × ByteArray) : Op.bytesLess p.1.toList q.1.toList = ltN p q := by
  rw [bytesLess_eq, ba_toList, ba_toList]; rfl

set_option maxHeartbeats 2000000 in
/-- The closure of Sorted. -/
theorem less_calls (blk c Bs n : Nat) (W : World) (G : Nat → ByteArray × ByteArray) (hs : W.cell? ⟨Bs, 0, none⟩ = some (.slice (some ⟨blk, 0, none⟩) n c))
    (hc : ∀ t, t < n → W.cell? ⟨blk, t * 2, none⟩ = some (.string (G t).1)) (i j : Nat) (hi : i < n) (hj : j < n) (hn : n ≤ 20) :
    Calls Tryz.prog 143 #[.int .i64 i, .int .i64 j, .pointer (some ⟨Bs, 0, none⟩)] W fun e w' => e = .returned (.bool (ltN (G i) (G j))) ∧ ∃ q, w' = W.drewN q := by
  have ci := hc i hi
  have cj := hc j hj
  rw [← ltN_is]
  go_enter Tryz.func143, Tryz.ntmps143
  go_wp2
  go_quiet (fail)
  go_wp2
  go_ret
  exact ⟨rfl, nq, rfl⟩

/-- The labels, sorted by name. -/
def srtL (l : LL) : LL := (Sort.insertionSort ltN l.toArray 0 l.length).toList

theorem srtL_length (l : LL) : (srtL l).length = l.length := by
  have h : (Sort.insertionSort ltN l.toArray 0 l.length).size = l.length := (insertionSort_holds (lt := ltN) swo_ltN l.toArray 0 l.toArray.size (Nat.zero_le _) (Nat.le_refl _)).1.1
  exact h
theorem grownBy_sortedL {w : World} {g n : Nat} {os : Array Obj} (d : Array (ByteArray × ByteArray)) : w.grownBy (sortWorldK encL 2 w g 0 n d os) (some g) := by
  refine ⟨rfl, rfl, rfl, by unfold sortWorldK; rw [size_grow, size_putRowK]; show w.heap.size ≤ w.heap.size + _; omega, fun k hk hne => ?_⟩
  unfold sortWorldK
  rw [heap_grow_old _ _ (by rw [size_putRowK]; exact hk)]
  have : g ≠ k := fun e => hne (by rw [e])
  simp [putRowK, putRow, mapBlock, Sort.ahead, Array.getElem?_modify, this]
theorem lessReads_of {w : World} {g c B : Nat} {l : LL} (hB : w.cell? ⟨B, 0, none⟩ = some (.slice (some ⟨g, 0, none⟩) l.length c)) (hH : HoldsK encL 2 w g 0 l.toArray) (hg : g < w.heap.size) (hBl : B < w.heap.size) (hne : B ≠ g) (h20 : l.length ≤ 20) :
    LessReadsK Tryz.prog 143 #[.pointer (some ⟨B, 0, none⟩)] encL 2 ltN g 0 l.toArray.size w := by
  intro m os dk hs i j hi hj
  rw [List.size_toArray] at hi hj
  have hs' : dk.size = l.length := by rw [hs, List.size_toArray]
  have hh := holdsK_sortWorldK encL 2 w g 0 m l.toArray dk os hg hH hs
  refine less_calls g c B l.length _ (fun t => dk[t]!) ?_ (fun t ht => ?_) i j hi hj h20
  · unfold sortWorldK
    rw [cell?_grow _ _ _ (by rw [size_putRowK]; exact hBl), cell?_putRowK_other encL 2 _ g 0 _ _ hne]
    exact hB
  · have := (hh.cell (i := t) (c := 0) (by rw [hs']; exact ht) (by omega)).1
    rw [Nat.zero_add] at this
    exact this

set_option maxHeartbeats 2000000 in
set_option maxRecDepth 100000 in
theorem sorted_calls (g0 cap : Nat) (l : LL) (w : World) (hl : Labs w (some ⟨g0, 0, none⟩) l) (hg0 : g0 < w.heap.size) (h20 : l.length ≤ 20) :
    Calls Tryz.prog 82 #[.slice (some ⟨g0, 0, none⟩) l.length cap] w fun e w' => ∃ g c, e = .returned (.slice (some ⟨g, 0, none⟩) (srtL l).length c) ∧ Labs w' (some ⟨g, 0, none⟩) (srtL l) ∧ Below w.heap.size w w' := by
  have HL := Aside0.mk hl
  have HR0 := Aside0.mk (rowLb_empty w)
  have HK := Aside0.mk (below_alloc (Below.refl w.heap.size w) (Obj.cells #[] 70))
  have HNA := Aside0.mk (show ∀ (j : Nat) (u : Value), (cellsL l)[j]? = some u → (w.alloc (.cells #[] 70)).cell? ((⟨g0, 0, none⟩ : Addr).add j) = some u from fun j u hu => by
    rcases hl with rfl | ⟨b, off, ha, hblt, hc⟩
    · simp [cellsL] at hu
    · cases ha
      have := labs_cells hc j u hu
      rw [addr_add] at this ⊢
      exact (HK.out.cell (p := ⟨g0, 0 + j, none⟩) hg0).trans this)
  obtain ⟨i0, hi, hz0, hz1, hz2⟩ := info_parts infoLb
  have HI := Aside0.mk (And.intro hi (And.intro hz0 (And.intro hz1 hz2)))
  clear hl hi hz0 hz1 hz2
  go_enter Tryz.func82, Tryz.ntmps82
  go_wp2_with (at_builtin; refine wpList_append_own _ rfl _ _ 22 rfl w.heap.size 70 i0 (.agg #[.string ⟨#[]⟩, .string ⟨#[]⟩]) 2 32 Tryz.underlying22 HI.out.1 HI.out.2.1 HI.out.2.2.1 HI.out.2.2.2 rfl (by decide) (.slice (some ⟨w.heap.size, 0, none⟩) 0 0) _ _ rfl HR0.out ⟨g0, 0, none⟩ l.length cap (cellsL l) rfl (cellsL_length l) HNA.out (cellsL_one l) ?q1 ?q2 ?q3 ?_)
  case q1 => rw [List.length_nil]; unfold maxLen; omega
  case q2 => rw [List.length_nil]; omega
  case q3 => simp
  intro v1 w1 ho1 hg1 hn1
  have HB1 := Aside0.mk (HK.out.grown hg1 (by simp) (fun k hk => by simp [Value.ownBlock] at hk; omega))
  have HO1 := Aside0.mk (show RowLb w1 w.heap.size v1 l by exact ho1)
  obtain ⟨g, c, hv1, hbase, hgl⟩ := HO1.out.form hn1
  subst hv1
  have HG := Aside0.mk (And.intro hbase hgl)
  have HS := Aside0.mk (show Labs w1 (some ⟨g, 0, none⟩) l from HO1.out.labs.1)
  have hH := holds_of_row HO1.out
  have e1 : w1.heap.size ≠ g := by omega
  have HSS := Aside0.mk (show ∀ W : World, W = w1.alloc (.cells #[.slice (some ⟨g, 0, none⟩) l.length c] 22) → Calls Tryz.prog 142 #[.iface 22 (.slice (some ⟨g, 0, none⟩) l.length c), .func (.func 143) #[] #[.pointer (some ⟨w1.heap.size, 0, none⟩)]] W fun e w' => e = .returned (.tuple #[]) ∧ w'.cell? ⟨w1.heap.size, 0, none⟩ = some (.slice (some ⟨g, 0, none⟩) l.length c) ∧ Labs w' (some ⟨g, 0, none⟩) (srtL l) ∧ Below w.heap.size w w' from fun W hW => by
    have hHW : HoldsK encL 2 W g 0 l.toArray := by rw [hW, alloc_eq_grow]; exact holdsK_grow encL 2 w1 _ g 0 _ hgl hH
    have hgW : g < W.heap.size := by rw [hW]; simp; omega
    have h := sliceStable_calls 143 #[.pointer (some ⟨w1.heap.size, 0, none⟩)] g c l.toArray W (enters_of Tryz.func143 (by kernel_rfl) rfl)
      (lessReads_of (c := c) (by rw [hW]; simp [go_sem]) hHW hgW (by rw [hW]; simp) e1 h20) hHW hgW (by rw [List.size_toArray]; exact h20)
    rw [List.size_toArray] at h
    refine h.mono ?_
    rintro e w' ⟨rfl, n, os, rfl⟩
    have hsz : (Sort.insertionSort ltN l.toArray 0 l.length).size = l.toArray.size := by
      exact (insertionSort_holds (lt := ltN) swo_ltN l.toArray 0 l.toArray.size (Nat.zero_le _) (Nat.le_refl _)).1.1
    refine ⟨rfl, ?_, ?_, ?_⟩
    · unfold sortWorldK
      rw [cell?_grow _ _ _ (by rw [size_putRowK]; show _ < W.heap.size; rw [hW]; simp), cell?_putRowK_other encL 2 _ g 0 _ _ e1]
      show W.cell? _ = _
      rw [hW]; simp [go_sem]
    · exact labs_of_holds (holdsK_sortWorldK encL 2 W g 0 n l.toArray _ os hgW hHW hsz) (lt_sortWorldK encL 2 W g 0 n _ os hgW)
    · have hbw : Below w.heap.size w W := by rw [hW]; exact below_alloc HB1.out _
      exact hbw.grown (grownBy_sortedL _) hbw.size (fun k hk => by cases hk; exact hbase))
  have HHW := Aside0.mk hH
  clear ho1 hg1 hn1 hbase hgl hH e1
  go_wp2_with (go_at_call 142; refine (HSS.out _ rfl).mono ?_; rintro e w2 ⟨rfl, hbx, hlw, hbw⟩; have HLW := Aside0.mk (And.intro hlw hbw); clear hlw hbw)
  go_ret
  exact ⟨g, c, by rw [srtL_length]; rfl, HLW.out.1, HLW.out.2⟩
end Go.Proofs.YtobbfenkdnaanaaGreatDoor
