/- sort.Slice over different numbers, by contract. -/
import Derived.Test.YtobbfenkdnaanaaGreatDoorSli
import Derived.Test.YtobbfenkdnaanaaGreatDoorFpC
set_option linter.unusedVariables false
set_option linter.unusedSimpArgs false
namespace Go.Proofs.YtobbfenkdnaanaaGreatDoor
open Go.RowKit Go.Sort Go.Lib

noncomputable def suT : TypeInfo := (Tryz.prog.info? 39).get (by kernel_rfl)
noncomputable def suE : TypeInfo := (Tryz.prog.info? 25).get (by kernel_rfl)
theorem suT_is : Tryz.prog.info? 39 = some suT := by kernel_rfl
theorem suE_is : Tryz.prog.info? 25 = some suE := by kernel_rfl
theorem suK2 (n : Nat) (h2 : 2 ≤ n) : Lib.swapperK n suE 11 = 5 := by
  have a : suE.hasPointers = false := by kernel_rfl
  have b : suE.bytes = 8 := by kernel_rfl
  have c : (n == 0) = false := by simp; omega
  have d : (n == 1) = false := by simp; omega
  simp [Lib.swapperK, a, b, c, d]

set_option maxHeartbeats 2000000 in
theorem less24_calls (blk c Bs size : Nat) (W : World) (G : Nat → Int) (hs : W.cell? ⟨Bs, 0, none⟩ = some (.slice (some ⟨blk, 0, none⟩) size c))
    (hc : ∀ t, t < size → W.cell? ⟨blk, 0 + t, none⟩ = some (.int .u64 (G t))) (i j : Nat) (hi : i < size) (hj : j < size) (hsz : size ≤ 1000000) :
    Calls Tryz.prog 24 #[.int .i64 i, .int .i64 j, .pointer (some ⟨Bs, 0, none⟩)] W fun e w' => e = .returned (.bool (decide (G i < G j))) ∧ ∃ q, w' = W.drewN q := by
  have ci := hc i hi
  have cj := hc j hj
  rw [Nat.zero_add] at ci cj
  clear hc
  go_enter Tryz.func24, Tryz.ntmps24
  go_wp2
  go_quiet (fail)
  go_wp2
  go_ret
  exact ⟨rfl, _, rfl⟩

/-- **sort.Slice over the row that a variable's box holds.** -/
theorem slice_u (bx base : Nat) (v : Value) (l : List Int) (w : World) (hbx : bx < base) (hr : RowU w base v l) (hc : w.cell? ⟨bx, 0, none⟩ = some v) (hn : l.Nodup) (hl : l.length ≤ 1000) :
    Calls Tryz.prog 23 #[.iface 39 v, .func (.func 24) #[] #[.pointer (some ⟨bx, 0, none⟩)]] w fun e w' => e = .returned (.tuple #[]) ∧ ∃ ds, RowU w' base v ds ∧ ds.length = l.length ∧ ds.Pairwise (· < ·) ∧ (∀ x, x ∈ ds ↔ x ∈ l) ∧ w.grownBy w' v.ownBlock := by
  rcases Nat.lt_or_ge l.length 2 with h2 | h2
  · have hp : l.Pairwise (· < ·) := by
      rcases l with _ | ⟨x, _ | ⟨y, t⟩⟩
      · exact List.Pairwise.nil
      · exact List.pairwise_singleton _ _
      · exfalso; have h5 : t.length + 1 + 1 < 2 := h2; omega
    have key : ∀ (p : Option Addr) (c : Nat), v = .slice p l.length c → Calls Tryz.prog 23 #[.iface 39 v, .func (.func 24) #[] #[.pointer (some ⟨bx, 0, none⟩)]] w fun e w' => e = .returned (.tuple #[]) ∧ ∃ os, w' = grow w os := by
      rintro p c rfl
      have hf : ∃ f, Tryz.prog.funcs.findIdx? (·.name == "internal/reflectlite" ++ ".Swapper$" ++ toString (swapperK l.length suE 11)) = some f := by
        rcases (show l.length = 0 ∨ l.length = 1 by omega) with e | e
        · rw [e, show swapperK 0 suE 11 = 1 from rfl]; exact ⟨120, by kernel_rfl⟩
        · rw [e, show swapperK 1 suE 11 = 2 from rfl]; exact ⟨121, by kernel_rfl⟩
      obtain ⟨f, hf⟩ := hf
      exact Any.sort_Slice_tiny Tryz.sliceL 39 25 suT suE suT_is (by kernel_rfl) (by kernel_rfl) suE_is 11 (fun _ => by kernel_rfl) p l.length c (by omega) f hf (.func 24) #[] #[.pointer (some ⟨bx, 0, none⟩)] w
    have hv : ∃ p c, v = .slice p l.length c := by
      by_cases e : v = .slice none 0 0
      · subst e
        have := hr.2
        rcases this with ⟨_, h0⟩ | ⟨g, cap, cur, hv, _⟩
        · have : l = [] := by simpa using h0
          subst this
          exact ⟨none, 0, rfl⟩
        · cases hv
      · rcases hr.2 with ⟨h0, _⟩ | ⟨g, cap, cur, hv, _⟩
        · exact absurd h0 e
        · exact ⟨_, cap, hv⟩
    obtain ⟨p, c, hv⟩ := hv
    refine (key p c hv).mono ?_
    rintro e w' ⟨rfl, os, rfl⟩
    have hg : w.grownBy (grow w os) none := ⟨rfl, rfl, rfl, by simp, fun k hk _ => heap_grow_old _ _ hk⟩
    have hg2 : w.grownBy (grow w os) v.ownBlock := ⟨rfl, rfl, rfl, by simp, fun k hk _ => heap_grow_old _ _ hk⟩
    exact ⟨rfl, l, World.ownsRow.kept hr hg (by cases e : v.ownBlock with | none => exact .inl rfl | some k => exact .inr (by simp)), rfl, hp, fun _ => Iff.rfl, hg2⟩
  · have hne : v ≠ .slice none 0 0 := fun e => by
      subst e
      rcases hr.2 with ⟨_, h0⟩ | ⟨g, cap, cur, hv, _⟩
      · have : l = [] := by simpa using h0
        subst this
        simp at h2
      · cases hv
    obtain ⟨g, c, rfl, hb, hg⟩ : ∃ g c, v = .slice (some ⟨g, 0, none⟩) l.length c ∧ base ≤ g ∧ g < w.heap.size := by
      rcases hr.2 with ⟨h0, _⟩ | ⟨g, cap, cur, hv, hb, hg, _⟩
      · exact absurd h0 hne
      · exact ⟨g, cap, hv, hb, (Array.getElem?_eq_some_iff.1 hg).1⟩
    have hH := (rowU_holds hr).1
    have hless : LessReads Tryz.prog 24 #[.pointer (some ⟨bx, 0, none⟩)] U64 ltInt g 0 l.toArray.size w := by
      intro m os dk hs i j hi hj
      have e : sortWorld U64 w g 0 m dk os = putRow U64 (grow (Sort.ahead w m) os) g 0 dk := by
        unfold sortWorld; rw [putRow_grow _ (Sort.ahead w m) _ g 0 _ hg]
      have hHg : Holds U64 (grow (Sort.ahead w m) os) g 0 l.toArray := holds_grow _ _ _ g 0 l.toArray hg (holds_ahead _ _ _ _ _ _ hH)
      refine less24_calls g c bx l.toArray.size _ (fun t => dk[t]!) ?_ (fun t ht => ?_) i j hi hj (by simp; omega)
      · rw [e, cell?_putRow_other _ _ g 0 dk _ (Or.inl (by show bx ≠ g; omega)), cell?_grow _ _ _ (by show bx < w.heap.size; omega)]
        exact hc
      · rw [e]; exact cell?_putRow _ _ g 0 l.toArray dk hHg hs t (by omega)
    have hS := Any.sort_Slice_sorted Tryz.sliceL 39 25 suT suE suT_is (by kernel_rfl) (by kernel_rfl) suE_is 11 (fun _ => by kernel_rfl) (by kernel_rfl) (fun _ => by kernel_rfl) U64 (fun _ => rfl) ltInt swo_ltInt 24 _
      (enters_of Tryz.func24 (by kernel_rfl) rfl) g 0 c l.toArray (by simpa using h2) (by simp; omega) 124 (by rw [suK2 _ (by simpa using h2)]; kernel_rfl) true
      (fun args W => run_callFunc_extern Tryz.func124 (by kernel_rfl) (by kernel_rfl) (by kernel_rfl) (e := Extern.ReflectliteSwapper.swap true) (by kernel_rfl) args W) w hless hH hg
    refine Calls.mono hS ?_
    rintro e w' ⟨rfl, d', m, os, hP, hSo, hw⟩
    have hdz : d'.size = l.length := by rw [hP.1]; simp
    obtain ⟨r1, r2⟩ := rowU_sorted hr ⟨m, os, hw⟩ hdz
    have hn1 := nod_perm (Nat.le_refl _) hP (nod_of hn)
    have hz : l.toArray.size = d'.size := hP.1.symm
    rw [hz] at hn1 hSo
    exact ⟨rfl, d'.toList, by
      have hl2 : d'.toList.length = l.length := by rw [← hdz]; exact Array.length_toList
      exact r1, by rw [← hdz]; exact Array.length_toList, sortedIn_asc hn1 hSo, fun x => mem_permIn hP x, r2⟩
end Go.Proofs.YtobbfenkdnaanaaGreatDoor
