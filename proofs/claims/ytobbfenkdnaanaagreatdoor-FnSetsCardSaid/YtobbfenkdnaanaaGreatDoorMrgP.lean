/- Labels merged, and sorted by name: plain facts. -/
import Derived.Test.YtobbfenkdnaanaaGreatDoorSetC
import Derived.Sort.LotA
set_option linter.unusedVariables false
set_option linter.unusedSimpArgs false
namespace Go.Proofs.YtobbfenkdnaanaaGreatDoor
open Go.RowKit Go.Maps Go.WideMaps Go.Sort

theorem once_of_sub {l d : LL} (h : d.Sublist l) (ho : Once l) : Once d := List.Nodup.sublist (h.map Prod.fst) ho
theorem getL_iff {l : LL} (ho : Once l) {x v : ByteArray} : getL l x = some v ↔ (x, v) ∈ l := ⟨getL_some, getL_of_mem ho⟩

/-- The labels with the one of a name laid anew. -/
def setL (l : LL) (x v : ByteArray) : LL := l.filter (fun p => !(p.1.toList == x.toList)) ++ [(x, v)]
theorem getL_out (x y : ByteArray) : ∀ l : LL, getL (l.filter (fun p => !(p.1.toList == x.toList))) y = if y = x then none else getL l y
  | [] => by simp [getL_nil]
  | (z, u) :: l => by
    by_cases hz : z = x
    · subst hz
      rw [List.filter_cons_of_neg (by simp), getL_out]
      by_cases hy : y = z
      · simp [hy]
      · rw [if_neg hy, if_neg hy, getL_cons_other _ _ (Ne.symm hy)]
    · rw [List.filter_cons_of_pos (by rw [beq_ne hz]; rfl)]
      by_cases hy : y = z
      · subst hy; rw [getL_cons_same, if_neg hz, getL_cons_same]
      · rw [getL_cons_other _ _ (Ne.symm hy), getL_out, getL_cons_other _ _ (Ne.symm hy)]
theorem getL_set (l : LL) (x v y : ByteArray) : getL (setL l x v) y = if y = x then some v else getL l y := by
  unfold setL
  rw [getL_append, getL_out]
  by_cases hy : y = x
  · subst hy; rw [if_pos rfl, if_pos rfl, getL_cons_same]; rfl
  · rw [if_neg hy, if_neg hy, getL_cons_other _ _ (Ne.symm hy), getL_nil]; cases getL l y <;> rfl
theorem once_set {l : LL} (h : Once l) (x v : ByteArray) : Once (setL l x v) := once_snoc (once_of_sub List.filter_sublist h) (by rw [getL_out, if_pos rfl])
theorem length_out (x : ByteArray) : ∀ {l : LL}, Once l → (l.filter (fun p => !(p.1.toList == x.toList))).length = if (getL l x).isSome then l.length - 1 else l.length
  | [], _ => rfl
  | (z, u) :: l, h => by
    have ho : Once l := by unfold Once at h ⊢; rw [List.map_cons, List.nodup_cons] at h; exact h.2
    have hn : z ∉ l.map Prod.fst := by unfold Once at h; rw [List.map_cons, List.nodup_cons] at h; exact h.1
    by_cases hz : z = x
    · subst hz
      rw [List.filter_cons_of_neg (by simp), length_out _ ho, getL_none.2 hn, getL_cons_same]
      simp
    · rw [List.filter_cons_of_pos (by rw [beq_ne hz]; rfl), getL_cons_other _ _ hz, List.length_cons, length_out _ ho]
      cases hg : getL l x with
      | none => simp
      | some w =>
        have hp : 0 < l.length := List.length_pos_of_mem (getL_some hg)
        simp
        omega
theorem length_set {l : LL} (h : Once l) (x v : ByteArray) : (setL l x v).length = if (getL l x).isSome then l.length else l.length + 1 := by
  unfold setL
  rw [List.length_append, length_out _ h]
  cases hg : getL l x with
  | none => simp
  | some w =>
    have hp : 0 < l.length := List.length_pos_of_mem (getL_some hg)
    simp
    omega
theorem Reads.set {D : DataW Unit} {l : LL} (h : Reads D l) (x v : ByteArray) : Reads (D.put (kl x) (.lit (.string v.data.toList))) (setL l x v) where
  once := once_set h.once x v
  tidy := h.tidy.put (kl_key x) _
  size := by rw [size_put h.tidy, h.has, h.size, length_set h.once]
  has := fun y => by
    rw [getL_set]
    by_cases e : y = x
    · subst e; rw [has_put_same h.tidy.isMap (kl_key y), if_pos rfl]; rfl
    · rw [has_put_other (fun h => e (kl_inj h)), h.has, if_neg e]
  at_ := fun y zd => by
    rw [getL_set]
    by_cases e : y = x
    · subst e; rw [atKey_put_same h.tidy.isMap (kl_key y), if_pos rfl]
    · rw [atKey_put_other (fun h => e (kl_inj h)), h.at_, if_neg e]

/-- The labels of one list whose names the other lacks. -/
def filtL (la lb : LL) : LL := la.filter (fun p => (getL lb p.1).isNone)
/-- Two lists of labels, merged: the second one's values stand. -/
def mrgL (la lb : LL) : LL := filtL la lb ++ lb
theorem getL_filt (lb : LL) (y : ByteArray) : ∀ la : LL, getL (filtL la lb) y = if (getL lb y).isNone then getL la y else none
  | [] => by simp [filtL, getL_nil]
  | (z, u) :: l => by
    have ih := getL_filt lb y l
    unfold filtL at ih ⊢
    by_cases hz : (getL lb z).isNone
    · rw [List.filter_cons_of_pos (by simpa using hz)]
      by_cases hy : z = y
      · subst hy; rw [getL_cons_same, if_pos hz, getL_cons_same]
      · rw [getL_cons_other _ _ hy, ih, getL_cons_other _ _ hy]
    · rw [List.filter_cons_of_neg (by simpa using hz), ih]
      by_cases hy : z = y
      · subst hy; rw [if_neg hz, if_neg hz]
      · rw [getL_cons_other _ _ hy]
theorem getL_mrg (la lb : LL) (y : ByteArray) : getL (mrgL la lb) y = (getL lb y).or (getL la y) := by
  unfold mrgL
  rw [getL_append, getL_filt]
  cases getL lb y with
  | none => simp
  | some v => rfl
theorem once_mrg {la lb : LL} (ha : Once la) (hb : Once lb) : Once (mrgL la lb) := by
  unfold mrgL Once
  rw [List.map_append, List.nodup_append]
  refine ⟨once_of_sub List.filter_sublist ha, hb, fun x hx y hy e => ?_⟩
  subst e
  have h := getL_filt lb x la
  cases hg : getL lb x with
  | none => exact getL_none.1 hg hy
  | some v =>
    rw [hg] at h
    exact getL_none.1 h hx
theorem mrg_length (la lb : LL) : (mrgL la lb).length ≤ la.length + lb.length := by
  unfold mrgL filtL
  rw [List.length_append]
  have := List.length_filter_le (fun p : ByteArray × ByteArray => (getL lb p.1).isNone) la
  omega
theorem mrg_perm {la lb l : LL} (ha : Once la) (hb : Once lb) (hl : Once l) (h : ∀ y, getL l y = (getL lb y).or (getL la y)) : (mrgL la lb).Perm l :=
  perm_of_once hl (once_mrg ha hb) fun (x, v) => by
    rw [← getL_iff hl, ← getL_iff (once_mrg ha hb), getL_mrg, h]

/-- By names. -/
def ltN (p q : ByteArray × ByteArray) : Bool := ltStr p.1.data.toList q.1.data.toList
theorem swo_ltN : SWO ltN where
  irrefl x := swo_ltStr.irrefl _
  trans x y z := swo_ltStr.trans _ _ _
  ntrans x y z := swo_ltStr.ntrans _ _ _
theorem ltN_both {p q : ByteArray × ByteArray} (h1 : ltN p q = false) (h2 : ltN q p = false) : p.1 = q.1 := by
  simp only [ltN, ltStr, decide_eq_false_iff_not, List.not_lt] at h1 h2
  exact ba_ext (List.le_antisymm h2 h1)
theorem sorted_uniq {l1 l2 : LL} (hp : l1.Perm l2) (ho : Once l1) (s1 : l1.Pairwise (fun a b => ltN b a = false)) (s2 : l2.Pairwise (fun a b => ltN b a = false)) : l1 = l2 := by
  refine List.Perm.eq_of_pairwise (le := fun a b => ltN b a = false) ?_ s1 s2 hp
  rintro ⟨x, v⟩ ⟨y, u⟩ ha hb h1 h2
  have e : x = y := ltN_both h2 h1
  subst e
  have h3 := getL_of_mem ho ha
  have h4 := getL_of_mem ho (hp.mem_iff.2 hb)
  rw [h3] at h4; cases h4; rfl
theorem pairwise_of_sorted {d : Array (ByteArray × ByteArray)} (h : SortedIn ltN 0 d.size d) : d.toList.Pairwise (fun a b => ltN b a = false) := by
  rw [List.pairwise_iff_getElem]
  intro i j hi hj hij
  have := h i j (Nat.zero_le _) hij (by simpa using hj)
  rw [getElem!_pos d i (by simpa using hi), getElem!_pos d j (by simpa using hj)] at this
  simpa using this
theorem perm_of_in {d d' : Array (ByteArray × ByteArray)} (h : PermIn 0 d.size d d') : d'.toList.Perm d.toList := by
  obtain ⟨h1, _, h3⟩ := h
  rw [Array.toList_extract, Array.toList_extract] at h3
  rw [List.extract_eq_take_drop, List.extract_eq_take_drop] at h3
  simp only [List.drop_zero, Nat.sub_zero] at h3
  rwa [List.take_of_length_le (by simp [h1]), List.take_of_length_le (by simp)] at h3
/-- The merged labels, sorted by name. -/
def mrgS (la lb : LL) : LL := (Sort.insertionSort ltN (mrgL la lb).toArray 0 (mrgL la lb).length).toList
theorem mrgS_is (la lb : LL) : (mrgS la lb).Perm (mrgL la lb) ∧ (mrgS la lb).Pairwise (fun a b => ltN b a = false) := by
  have h := insertionSort_holds (lt := ltN) swo_ltN (mrgL la lb).toArray 0 (mrgL la lb).toArray.size (Nat.zero_le _) (Nat.le_refl _)
  rw [List.size_toArray] at h
  obtain ⟨h1, h2⟩ := h
  refine ⟨?_, ?_⟩
  · have := perm_of_in (d := (mrgL la lb).toArray) (by rw [List.size_toArray]; exact h1)
    unfold mrgS
    exact this
  · have hs : (Sort.insertionSort ltN (mrgL la lb).toArray 0 (mrgL la lb).length).size = (mrgL la lb).length := by rw [h1.1, List.size_toArray]
    exact pairwise_of_sorted (by rw [hs]; exact h2)
/-- Whatever sort of the merged labels by name is the same. -/
theorem mrgS_of {la lb : LL} (ha : Once la) (hb : Once lb) {d d' : Array (ByteArray × ByteArray)} (hd : d.toList.Perm (mrgL la lb)) (h1 : PermIn 0 d.size d d') (h2 : SortedIn ltN 0 d.size d') : d'.toList = mrgS la lb := by
  have hp : (mrgS la lb).Perm d'.toList := (mrgS_is la lb).1.trans (((perm_of_in h1).trans hd).symm)
  refine (sorted_uniq hp ?_ (mrgS_is la lb).2 (pairwise_of_sorted (by rw [h1.1]; exact h2))).symm
  exact (List.Perm.nodup_iff ((mrgS_is la lb).1.map _)).2 (once_mrg ha hb)
end Go.Proofs.YtobbfenkdnaanaaGreatDoor
