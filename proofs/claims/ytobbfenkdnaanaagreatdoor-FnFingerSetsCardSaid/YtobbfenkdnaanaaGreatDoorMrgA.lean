/- Labels merged, and sorted by name: plain facts. Two sets of labels are merged: LabelSet.Merge, by contract. The reference's Filter, by the names that another list lacks. sort.SliceStable over at most 20 labels, by contract: the row holds the insertion sort's. The reference's Sorted, by contract. The reference's Merge, by contract. slices.SortFunc's closure over labels, by name. -/
import Derived.Test.YtobbfenkdnaanaaGreatDoorSetC
import Derived.Sort.LotA
import Derived.Test.YtobbfenkdnaanaaGreatDoorRowL
import Derived.Test.YtobbfenkdnaanaaGreatDoorStb
import Derived.Shelf.SlSortFuncK.SWK
import Derived.Shelf.GgSortFunc.SmallK
import Derived.Deep.QuietTactic
import Derived.Laws.AppendOwnNone
set_option linter.unusedVariables false
set_option linter.unusedSimpArgs false
namespace Go.Proofs.YtobbfenkdnaanaaGreatDoor
open Go.RowKit Go.Maps Go.WideMaps Go.Sort

theorem once_of_sub {l d : LL} (h : d.Sublist l) (ho : Once l) : Once d := List.Nodup.sublist (h.map Prod.fst) ho
theorem getL_iff {l : LL} (ho : Once l) {x v : ByteArray} : getL l x = some v ↔ (x, v) ∈ l := ⟨getL_some, getL_of_mem ho⟩

/-- The labels with the one of a name laid anew. -/
def setL (l : LL) (x v : ByteArray) : LL := l.filter (fun p => !(p.1.toList == x.toList)) ++ [(x, v)]
theorem getL_out (x y : ByteArray) : ∀ l : LL, getL (l.filter (fun p => !(p.1.toList == x.toList))) y = if y = x then none else getL l y
  | [] => by simp [getL_nil]
  | (z, u) :: l => by
    by_cases hz : z = x
    · subst hz
      rw [List.filter_cons_of_neg (by simp), getL_out]
      by_cases hy : y = z
      · simp [hy]
      · rw [if_neg hy, if_neg hy, getL_cons_other _ _ (Ne.symm hy)]
    · rw [List.filter_cons_of_pos (by rw [beq_ne hz]; rfl)]
      by_cases hy : y = z
      · subst hy; rw [getL_cons_same, if_neg hz, getL_cons_same]
      · rw [getL_cons_other _ _ (Ne.symm hy), getL_out, getL_cons_other _ _ (Ne.symm hy)]
theorem getL_set (l : LL) (x v y : ByteArray) : getL (setL l x v) y = if y = x then some v else getL l y := by
  unfold setL
  rw [getL_append, getL_out]
  by_cases hy : y = x
  · subst hy; rw [if_pos rfl, if_pos rfl, getL_cons_same]; rfl
  · rw [if_neg hy, if_neg hy, getL_cons_other _ _ (Ne.symm hy), getL_nil]; cases getL l y <;> rfl
theorem once_set {l : LL} (h : Once l) (x v : ByteArray) : Once (setL l x v) := once_snoc (once_of_sub List.filter_sublist h) (by rw [getL_out, if_pos rfl])
theorem length_out (x : ByteArray) : ∀ {l : LL}, Once l → (l.filter (fun p => !(p.1.toList == x.toList))).length = if (getL l x).isSome then l.length - 1 else l.length
  | [], _ => rfl
  | (z, u) :: l, h => by
    have ho : Once l := by unfold Once at h ⊢; rw [List.map_cons, List.nodup_cons] at h; exact h.2
    have hn : z ∉ l.map Prod.fst := by unfold Once at h; rw [List.map_cons, List.nodup_cons] at h; exact h.1
    by_cases hz : z = x
    · subst hz
      rw [List.filter_cons_of_neg (by simp), length_out _ ho, getL_none.2 hn, getL_cons_same]
      simp
    · rw [List.filter_cons_of_pos (by rw [beq_ne hz]; rfl), getL_cons_other _ _ hz, List.length_cons, length_out _ ho]
      cases hg : getL l x with
      | none => simp
      | some w =>
        have hp : 0 < l.length := List.length_pos_of_mem (getL_some hg)
        simp
        omega
theorem length_set {l : LL} (h : Once l) (x v : ByteArray) : (setL l x v).length = if (getL l x).isSome then l.length else l.length + 1 := by
  unfold setL
  rw [List.length_append, length_out _ h]
  cases hg : getL l x with
  | none => simp
  | some w =>
    have hp : 0 < l.length := List.length_pos_of_mem (getL_some hg)
    simp
    omega
theorem Reads.set {D : DataW Unit} {l : LL} (h : Reads D l) (x v : ByteArray) : Reads (D.put (kl x) (.lit (.string v.data.toList))) (setL l x v) where
  once := once_set h.once x v
  tidy := h.tidy.put (kl_key x) _
  size := by rw [size_put h.tidy, h.has, h.size, length_set h.once]
  has := fun y => by
    rw [getL_set]
    by_cases e : y = x
    · subst e; rw [has_put_same h.tidy.isMap (kl_key y), if_pos rfl]; rfl
    · rw [has_put_other (fun h => e (kl_inj h)), h.has, if_neg e]
  at_ := fun y zd => by
    rw [getL_set]
    by_cases e : y = x
    · subst e; rw [atKey_put_same h.tidy.isMap (kl_key y), if_pos rfl]
    · rw [atKey_put_other (fun h => e (kl_inj h)), h.at_, if_neg e]

/-- The labels of one list whose names the other lacks. -/
def filtL (la lb : LL) : LL := la.filter (fun p => (getL lb p.1).isNone)
/-- Two lists of labels, merged: the second one's values stand. -/
def mrgL (la lb : LL) : LL := filtL la lb ++ lb
theorem getL_filt (lb : LL) (y : ByteArray) : ∀ la : LL, getL (filtL la lb) y = if (getL lb y).isNone then getL la y else none
  | [] => by simp [filtL, getL_nil]
  | (z, u) :: l => by
    have ih := getL_filt lb y l
    unfold filtL at ih ⊢
    by_cases hz : (getL lb z).isNone
    · rw [List.filter_cons_of_pos (by simpa using hz)]
      by_cases hy : z = y
      · subst hy; rw [getL_cons_same, if_pos hz, getL_cons_same]
      · rw [getL_cons_other _ _ hy, ih, getL_cons_other _ _ hy]
    · rw [List.filter_cons_of_neg (by simpa using hz), ih]
      by_cases hy : z = y
      · subst hy; rw [if_neg hz, if_neg hz]
      · rw [getL_cons_other _ _ hy]
theorem getL_mrg (la lb : LL) (y : ByteArray) : getL (mrgL la lb) y = (getL lb y).or (getL la y) := by
  unfold mrgL
  rw [getL_append, getL_filt]
  cases getL lb y with
  | none => simp
  | some v => rfl
theorem once_mrg {la lb : LL} (ha : Once la) (hb : Once lb) : Once (mrgL la lb) := by
  unfold mrgL Once
  rw [List.map_append, List.nodup_append]
  refine ⟨once_of_sub List.filter_sublist ha, hb, fun x hx y hy e => ?_⟩
  subst e
  have h := getL_filt lb x la
  cases hg : getL lb x with
  | none => exact getL_none.1 hg hy
  | some v =>
    rw [hg] at h
    exact getL_none.1 h hx
theorem mrg_length (la lb : LL) : (mrgL la lb).length ≤ la.length + lb.length := by
  unfold mrgL filtL
  rw [List.length_append]
  have := List.length_filter_le (fun p : ByteArray × ByteArray => (getL lb p.1).isNone) la
  omega
theorem mrg_perm {la lb l : LL} (ha : Once la) (hb : Once lb) (hl : Once l) (h : ∀ y, getL l y = (getL lb y).or (getL la y)) : (mrgL la lb).Perm l :=
  perm_of_once hl (once_mrg ha hb) fun (x, v) => by
    rw [← getL_iff hl, ← getL_iff (once_mrg ha hb), getL_mrg, h]

/-- By names. -/
def ltN (p q : ByteArray × ByteArray) : Bool := ltStr p.1.data.toList q.1.data.toList
theorem swo_ltN : SWO ltN where
  irrefl x := swo_ltStr.irrefl _
  trans x y z := swo_ltStr.trans _ _ _
  ntrans x y z := swo_ltStr.ntrans _ _ _
theorem ltN_both {p q : ByteArray × ByteArray} (h1 : ltN p q = false) (h2 : ltN q p = false) : p.1 = q.1 := by
  simp only [ltN, ltStr, decide_eq_false_iff_not, List.not_lt] at h1 h2
  exact ba_ext (List.le_antisymm h2 h1)
theorem sorted_uniq {l1 l2 : LL} (hp : l1.Perm l2) (ho : Once l1) (s1 : l1.Pairwise (fun a b => ltN b a = false)) (s2 : l2.Pairwise (fun a b => ltN b a = false)) : l1 = l2 := by
  refine List.Perm.eq_of_pairwise (le := fun a b => ltN b a = false) ?_ s1 s2 hp
  rintro ⟨x, v⟩ ⟨y, u⟩ ha hb h1 h2
  have e : x = y := ltN_both h2 h1
  subst e
  have h3 := getL_of_mem ho ha
  have h4 := getL_of_mem ho (hp.mem_iff.2 hb)
  rw [h3] at h4; cases h4; rfl
theorem pairwise_of_sorted {d : Array (ByteArray × ByteArray)} (h : SortedIn ltN 0 d.size d) : d.toList.Pairwise (fun a b => ltN b a = false) := by
  rw [List.pairwise_iff_getElem]
  intro i j hi hj hij
  have := h i j (Nat.zero_le _) hij (by simpa using hj)
  rw [getElem!_pos d i (by simpa using hi), getElem!_pos d j (by simpa using hj)] at this
  simpa using this
theorem perm_of_in {d d' : Array (ByteArray × ByteArray)} (h : PermIn 0 d.size d d') : d'.toList.Perm d.toList := by
  obtain ⟨h1, _, h3⟩ := h
  rw [Array.toList_extract, Array.toList_extract] at h3
  rw [List.extract_eq_take_drop, List.extract_eq_take_drop] at h3
  simp only [List.drop_zero, Nat.sub_zero] at h3
  rwa [List.take_of_length_le (by simp [h1]), List.take_of_length_le (by simp)] at h3
/-- The merged labels, sorted by name. -/
def mrgS (la lb : LL) : LL := (Sort.insertionSort ltN (mrgL la lb).toArray 0 (mrgL la lb).length).toList
theorem mrgS_is (la lb : LL) : (mrgS la lb).Perm (mrgL la lb) ∧ (mrgS la lb).Pairwise (fun a b => ltN b a = false) := by
  have h := insertionSort_holds (lt := ltN) swo_ltN (mrgL la lb).toArray 0 (mrgL la lb).toArray.size (Nat.zero_le _) (Nat.le_refl _)
  rw [List.size_toArray] at h
  obtain ⟨h1, h2⟩ := h
  refine ⟨?_, ?_⟩
  · have := perm_of_in (d := (mrgL la lb).toArray) (by rw [List.size_toArray]; exact h1)
    unfold mrgS
    exact this
  · have hs : (Sort.insertionSort ltN (mrgL la lb).toArray 0 (mrgL la lb).length).size = (mrgL la lb).length := by rw [h1.1, List.size_toArray]
    exact pairwise_of_sorted (by rw [hs]; exact h2)
/-- Whatever sort of the merged labels by name is the same. -/
theorem mrgS_of {la lb : LL} (ha : Once la) (hb : Once lb) {d d' : Array (ByteArray × ByteArray)} (hd : d.toList.Perm (mrgL la lb)) (h1 : PermIn 0 d.size d d') (h2 : SortedIn ltN 0 d.size d') : d'.toList = mrgS la lb := by
  have hp : (mrgS la lb).Perm d'.toList := (mrgS_is la lb).1.trans (((perm_of_in h1).trans hd).symm)
  refine (sorted_uniq hp ?_ (mrgS_is la lb).2 (pairwise_of_sorted (by rw [h1.1]; exact h2))).symm
  exact (List.Perm.nodup_iff ((mrgS_is la lb).1.map _)).2 (once_mrg ha hb)
end Go.Proofs.YtobbfenkdnaanaaGreatDoor

namespace Go.Proofs.YtobbfenkdnaanaaGreatDoor
open Go.RowKit Go.Maps Go.WideMaps

section
variable (w : World) {ops : Array Oper} {rest : List Oper} {o : Oper} {a : Act} {Q : Exit → Act → World → Prop}
/-- 'm[x] = v', whether the name is there or not. -/
theorem wpList_put_label (hg : o.guard = none) (m x v : Operand) (t : TypeId) (hop : o.op = Op.mapUpdate t m x v) (ht : Tryz.prog.underlying t = some (.map 118 119)) (b n : Nat) (l : LL)
    (hm : a.eval m = .map (some b)) (hown : MapIs w b n l) (hn : n < maxLen) (xs vs : ByteArray) (hx : a.eval x = .string xs) (hv : a.eval v = .string vs) (hxl : xs.size ≤ maxLen) (hvl : vs.size ≤ maxLen)
    (hK : ∀ w', MapIs w' b (n + 1) (setL l xs vs) → w.grownBy w' (some b) → wpList Tryz.prog ops Q rest (a.put o.dst undef) w') :
    wpList Tryz.prog ops Q (o :: rest) a w := by
  obtain ⟨D, ho, hr⟩ := hown
  exact wpList_mapUpdate_own w hg m x v t hop 118 119 law ht RE b n D hm ho hn _ _ (kl xs) hx hv (keyOf_string_mk Tryz.underlying118 hxl) (.lit (.string vs.data.toList)) [] (plainElem_string Tryz.underlying119 hvl)
    (fun w' h1 h2 => hK w' ⟨_, h1, hr.set xs vs⟩ h2)
end

theorem mrg_step {la lb d l' : LL} {x v : ByteArray} (hl : ∀ y, getL l' y = (getL d y).or (getL la y)) (hdx : getL d x = none) : ∀ y, getL (setL l' x v) y = (getL (d ++ [(x, v)]) y).or (getL la y) := fun y => by
  rw [getL_set, getL_append, hl]
  by_cases hy : y = x
  · subst hy; rw [if_pos rfl, hdx, getL_cons_same]; rfl
  · rw [if_neg hy, getL_cons_other _ _ (Ne.symm hy), getL_nil]; cases getL d y <;> rfl
theorem getL_perm {l l' : LL} (h : l'.Perm l) (ho : Once l) (y : ByteArray) : getL l' y = getL l y := by
  have ho' : Once l' := (List.Perm.nodup_iff (h.map _)).2 ho
  cases e : getL l y with
  | none => exact getL_none.2 fun hx => getL_none.1 e ((h.map _).mem_iff.1 hx)
  | some v => exact getL_of_mem ho' (h.mem_iff.2 (getL_some e))

set_option maxHeartbeats 2000000 in
set_option maxRecDepth 100000 in
theorem merge_calls (ba bb na nb : Nat) (la lb : LL) (w : World) (ha : MapIs w ba na la) (hb : MapIs w bb nb lb) (hsa : Sized la) (hsb : Sized lb) :
    Calls Tryz.prog 77 #[.map (some ba), .map (some bb)] w fun e w' => ∃ b, e = .returned (.map (some b)) ∧ w.heap.size ≤ b ∧ MapIs w' b 40 (mrgL la lb) ∧ Below w.heap.size w w' := by
  have HA := Aside0.mk ha
  have HBM := Aside0.mk hb
  have HSA := Aside0.mk hsa
  have HSB := Aside0.mk hsb
  have hlen := hsa.1
  have hlenb := hsb.1
  have HLT := Aside0.mk (And.intro ha.lt hb.lt)
  clear ha hb hsa hsb
  have hmm := run_makeMap_hint 75 118 119 Tryz.underlying75
  go_enter Tryz.func77, Tryz.ntmps77
  go_wp2_with (first | (at_len; refine wpList_len_label _ rfl _ 75 rfl Tryz.underlying75 ba na la rfl HA.out ?_) | (at_range; refine wpList_range_label _ rfl _ 75 rfl Tryz.underlying75 ba na la rfl (HA.out.alloc _) ?_; intro w0 hrg0 hg0 hs0; have HRG := Aside0.mk hrg0; have HG0 := Aside0.mk (And.intro hg0 hs0); clear hrg0 hg0 hs0))
  go_frame
  have e1 : (w.alloc (.map #[] 0)).heap.size = w.heap.size + 1 := by simp
  have hR := HRG.out
  rw [e1] at hR ⊢
  have HRG := Aside0.mk hR
  have hlt0 := HA.out.lt
  have HNE := Aside0.mk (show some ba ≠ some w.heap.size ∧ some (w.heap.size + 1) ≠ some w.heap.size ∧ some w.heap.size ≠ some (w.heap.size + 1) from ⟨fun e => by have := Option.some.inj e; omega, fun e => by have := Option.some.inj e; omega, fun e => by have := Option.some.inj e; omega⟩)
  have HM0 := Aside0.mk ((MapIs.made w).kept HG0.out.1 (by simp))
  have HB0 := Aside0.mk ((below_alloc (Below.refl w.heap.size w) (.map #[] 0)).grown HG0.out.1 (by simp) (fun k hk => by cases hk))
  clear hR e1 hlt0
  go_loopg [7] la.length (fun g v7 w' => ∃ d : LL, Aside0 (RangeIs w' ba (w.heap.size + 1) na la d g) ∧ Aside0 (MapIs w' w.heap.size d.length d) ∧ Aside0 (Below w.heap.size w w'))
  case atStart => exact ⟨[], HRG, HM0, HB0⟩
  case round =>
    obtain ⟨d, HR, HM, HBW⟩ := hrel
    go_wp2_with (at_next; refine wpList_next_label _ rfl _ rfl ba (w.heap.size + 1) na la d gk rfl HR.out ?_ ?_)
    · intro hperm
      have HF := Aside0.mk hperm
      have HNB := Aside0.mk (HBM.out.next HBW.out)
      have HMW := Aside0.mk (show MapIs wr w.heap.size la.length la from (HM.out.swap hperm.symm).mono (by rw [hperm.length_eq]; exact Nat.le_refl _))
      clear hperm
      obtain ⟨wq, hwq⟩ : ∃ wq : World, wq = wr := ⟨_, rfl⟩
      subst hwq
      go_wp2_with (at_range; refine wpList_range_label _ rfl _ 75 rfl Tryz.underlying75 bb nb lb rfl HNB.out ?_; intro w5 hrg5 hg5 hs5; have HRG5 := Aside0.mk hrg5; have HG5 := Aside0.mk (And.intro hg5 hs5); clear hrg5 hg5 hs5)
      go_frame
      have HWQ := Aside0.mk (And.intro HBW.out.size HMW.out.lt)
      have HM5 := Aside0.mk (HMW.out.kept HG5.out.1 (by simp))
      have HB5 := Aside0.mk (HBW.out.grown HG5.out.1 HBW.out.size (fun k hk => by cases hk))
      have HNE5 := Aside0.mk (show some bb ≠ some w.heap.size ∧ some wq.heap.size ≠ some w.heap.size ∧ some w.heap.size ≠ some wq.heap.size from ⟨fun e => by have := Option.some.inj e; have := HLT.out.2; omega, fun e => by have := Option.some.inj e; have := HWQ.out.2; omega, fun e => by have := Option.some.inj e; have := HWQ.out.2; omega⟩)
      go_loopg [9] lb.length (fun g v9 w' => ∃ d2 l2 : LL, Aside0 (RangeIs w' bb wq.heap.size nb lb d2 g) ∧ Aside0 (MapIs w' w.heap.size (la.length + d2.length) l2) ∧ Aside0 (∀ y, getL l2 y = (getL d2 y).or (getL la y)) ∧ Aside0 (Below w.heap.size w w'))
      case atStart => exact ⟨[], la, HRG5, HM5, ⟨fun y => rfl⟩, HB5⟩
      case round =>
        obtain ⟨d2, l2, HR2, HM2, HL2, HBW2⟩ := hrel
        go_wp2_with (at_next; refine wpList_next_label _ rfl _ rfl bb wq.heap.size nb lb d2 gk rfl HR2.out ?_ ?_)
        · intro hperm
          have HF2 := Aside0.mk hperm
          clear hperm
          go_wp2
          go_ret
          refine ⟨w.heap.size, rfl, Nat.le_refl _, ?_, HBW2.out⟩
          have hlb := HR2.out.map.once
          have hla := HMW.out.once
          refine (HM2.out.swap (mrg_perm hla hlb HM2.out.once fun y => ?_)).mono (by have h1 := HF2.out.length_eq; have h2 := HSA.out.1; have h3 := HSB.out.1; omega)
          rw [HL2.out, getL_perm HF2.out hlb]
        · intro x v w1 cnt1 hlx hdx hxl hrg1 hlt hg1 hs1 hen
          have HBX := Aside0.mk (HBW2.out.grown hg1 (by have := HBW2.out.size; omega) (fun k hk => by cases hk; exact HWQ.out.1))
          have HM1 := Aside0.mk (HM2.out.kept hg1 HNE5.out.2.2)
          have hsv := HSB.out.2 _ (getL_some hlx)
          have hdl := HR2.out.count
          have HX := Aside0.mk (And.intro hdx (And.intro hxl (And.intro (show v.size ≤ maxLen by have h2 : v.size ≤ 300 := hsv.2; unfold maxLen; omega) (show la.length + d2.length < maxLen by unfold maxLen; omega))))
          have HRG1 := Aside0.mk hrg1
          clear hlx hdx hxl hrg1 hg1 hs1 hsv hdl
          go_wp2_with (at_mapUpdate; refine wpList_put_label _ rfl _ _ _ 75 rfl Tryz.underlying75 w.heap.size (la.length + d2.length) l2 rfl HM1.out HX.out.2.2.2 x v rfl rfl HX.out.2.1 HX.out.2.2.1 ?_; intro w2 hm3 hg3; have HM3 := Aside0.mk hm3; have HG3 := Aside0.mk hg3; clear hm3 hg3)
          go_frame
          go_roundg cnt1
          case measure => exact hlt
          case rel => exact ⟨d2 ++ [(x, v)], setL l2 x v, ⟨HRG1.out.kept HG3.out HNE5.out.1 HNE5.out.2.1⟩, ⟨by rw [List.length_append]; exact HM3.out⟩, ⟨mrg_step (lb := lb) HL2.out HX.out.1⟩, ⟨HBX.out.grown HG3.out (by have := HBX.out.size; omega) (fun k hk => by cases hk; exact Nat.le_refl _)⟩⟩
    · intro x v w1 cnt1 hlx hdx hxl hrg1 hlt hg1 hs1 hen
      have HBX := Aside0.mk (HBW.out.grown hg1 (by have := HBW.out.size; omega) (fun k hk => by cases hk; omega))
      have HM1 := Aside0.mk (HM.out.kept hg1 HNE.out.2.2)
      have hsv := HSA.out.2 _ (getL_some hlx)
      have hdl := HR.out.count
      have HX := Aside0.mk (And.intro hdx (And.intro hxl (And.intro (show v.size ≤ maxLen by have h2 : v.size ≤ 300 := hsv.2; unfold maxLen; omega) (show d.length < maxLen by unfold maxLen; omega))))
      have HRG1 := Aside0.mk hrg1
      clear hlx hdx hxl hrg1 hg1 hs1 hsv hdl
      go_wp2_with (at_mapUpdate; refine wpList_store_label _ rfl _ _ _ 75 rfl Tryz.underlying75 w.heap.size d.length d rfl HM1.out HX.out.2.2.2 x v rfl rfl HX.out.2.1 HX.out.2.2.1 HX.out.1 ?_; intro w2 hm3 hg3; have HM3 := Aside0.mk hm3; have HG3 := Aside0.mk hg3; clear hm3 hg3)
      go_frame
      go_roundg cnt1
      case measure => exact hlt
      case rel => exact ⟨d ++ [(x, v)], ⟨HRG1.out.kept HG3.out HNE.out.1 HNE.out.2.1⟩, ⟨by rw [List.length_append]; exact HM3.out⟩, ⟨HBX.out.grown HG3.out (by have := HBX.out.size; omega) (fun k hk => by cases hk; exact Nat.le_refl _)⟩⟩
end Go.Proofs.YtobbfenkdnaanaaGreatDoor

namespace Go.Proofs.YtobbfenkdnaanaaGreatDoor
open Go.RowKit Go.Maps Go.WideMaps Go.Sort

theorem infoLb : (Tryz.prog.info? 70).map (fun i => (i.zero, i.size, i.bytes)) = some (some (.agg #[.string ⟨#[]⟩, .string ⟨#[]⟩]), 2, 32) := by kernel_rfl

set_option maxHeartbeats 1000000 in
set_option maxRecDepth 100000 in
theorem isnot_calls (B : Nat) (a' : Option Addr) (cap' : Nat) (lb : LL) (x v : ByteArray) (w : World) (hc : w.cell? ⟨B, 0, none⟩ = some (.slice a' lb.length cap')) (hB : B < w.heap.size) (hl : Labs w a' lb) (hs : lb.length ≤ 20) :
    Calls Tryz.prog 81 #[.agg #[.string x, .string v], .pointer (some ⟨B, 0, none⟩)] w fun e w' => e = .returned (.bool (getL lb x).isNone) ∧ Below w.heap.size w w' := by
  have HK := Aside0.mk (below_alloc (Below.refl w.heap.size w) (Obj.cells #[Value.string x, Value.string v] 70))
  have HL := Aside0.mk (hl.next HK.out)
  have c1 := (HK.out.cell (p := ⟨B, 0, none⟩) hB).trans hc
  have HS := Aside0.mk hs
  clear hl hc hs
  go_enter Tryz.func81, Tryz.ntmps81
  go_wp2_with fail
  refine (specGet_calls a' cap' lb x _ HL.out HS.out).mono ?_
  rintro e w1 ⟨rfl, hb⟩
  have HB1 := Aside0.mk (below_step HK.out hb)
  clear hb
  go_wp2
  go_ret
  refine ⟨?_, HB1.out⟩
  cases getL lb x <;> rfl

theorem cell_two_new (w : World) (x y : Value) (e : TypeId) : ∀ (j : Nat) (u : Value), [x, y][j]? = some u → (w.alloc (.cells #[x, y] e)).cell? ((⟨w.heap.size, 0, none⟩ : Addr).add j) = some u := by
  intro j u h
  rw [addr_add]
  rcases j with _ | _ | j
  · cases h; simp [go_sem]
  · cases h; simp [go_sem]
  · simp at h
theorem RowLb.next {w w' : World} {base : Nat} {v : Value} {l : LL} (h : RowLb w base v l) (hb : Below w.heap.size w w') : RowLb w' base v l := by
  obtain ⟨h1, h2⟩ := h
  refine ⟨h1, h2.imp id ?_⟩
  rintro ⟨g, cap, cur, hv, hbase, hg, h3, h4, h5, h6⟩
  exact ⟨g, cap, cur, hv, hbase, (hb.block g (Array.getElem?_eq_some_iff.1 hg).1).trans hg, h3, h4, h5, h6⟩
theorem filtL_take {la lb : LL} {i : Nat} (h : i < la.length) : filtL (la.take (i + 1)) lb = filtL (la.take i) lb ++ (if (getL lb (la[i]'h).1).isNone then [la[i]'h] else []) := by
  unfold filtL
  rw [List.take_succ_eq_append_getElem h, List.filter_append]
  congr 1
  cases hg : (getL lb (la[i]'h).1).isNone <;> simp [hg]

set_option maxHeartbeats 2000000 in
set_option maxRecDepth 100000 in
theorem filter_calls (B : Nat) (a a' : Option Addr) (cap cap' : Nat) (la lb : LL) (w : World) (hla : Labs w a la) (hc : w.cell? ⟨B, 0, none⟩ = some (.slice a' lb.length cap')) (hB : B < w.heap.size) (hl : Labs w a' lb) (hsa : la.length ≤ 10) (hs : lb.length ≤ 10) :
    Calls Tryz.prog 80 #[.slice a la.length cap, .func (.func 81) #[] #[.pointer (some ⟨B, 0, none⟩)]] w fun e w' => ∃ g c, e = .returned (.slice (some ⟨g, 0, none⟩) (filtL la lb).length c) ∧ RowLb w' w.heap.size (.slice (some ⟨g, 0, none⟩) (filtL la lb).length c) (filtL la lb) ∧ Below w.heap.size w w' := by
  have HLA := Aside0.mk hla
  have HLB := Aside0.mk hl
  have HC := Aside0.mk hc
  have HR0 := Aside0.mk (rowLb_empty w)
  have HK := Aside0.mk (below_alloc (Below.refl w.heap.size w) (Obj.cells #[] 70))
  obtain ⟨i0, hi, hz0, hz1, hz2⟩ := info_parts infoLb
  have HI := Aside0.mk (And.intro hi (And.intro hz0 (And.intro hz1 hz2)))
  clear hla hl hc hi hz0 hz1 hz2
  go_enter Tryz.func80, Tryz.ntmps80
  go_wp2_with fail
  go_loopg [5, 6] (la.length + 1) (fun g v5 v6 w' => ∃ i : Nat, v6 = .int .i64 (i : Int) ∧ i + g = la.length + 1 ∧ i ≤ la.length ∧ Aside0 (RowLb w' w.heap.size v5 (filtL (la.take i) lb)) ∧ Aside0 (v5 ≠ .slice none 0 0) ∧ Aside0 (Below w.heap.size w w'))
  case atStart => exact ⟨0, rfl, by omega, by omega, HR0, ⟨by simp⟩, HK⟩
  case round =>
    obtain ⟨i, rfl, hig, hile, HR, HV, HBW⟩ := hrel
    by_cases hlt : i < la.length
    · obtain ⟨g1, rfl⟩ : ∃ m, gk = m + 1 := ⟨gk - 1, by omega⟩
      rcases HLA.out.next HBW.out with h | ⟨b, off, ha, hblt, hcl⟩
      · rw [h] at hlt; simp at hlt
      subst ha
      have c0 := (hcl i hlt).1
      have c1 := (hcl i hlt).2
      obtain ⟨x, hx⟩ : ∃ x, (la[i]'hlt).1 = x := ⟨_, rfl⟩
      obtain ⟨v, hv⟩ : ∃ v, (la[i]'hlt).2 = v := ⟨_, rfl⟩
      rw [hx] at c0
      rw [hv] at c1
      have HXY := Aside0.mk (show la[i]'hlt = (x, v) by rw [← hx, ← hv])
      have HCL := Aside0.mk hcl
      have HN := Aside0.mk (isnot_calls B a' cap' lb x v wr ((HBW.out.cell (p := ⟨B, 0, none⟩) hB).trans HC.out) (by have := HBW.out.size; omega) (HLB.out.next HBW.out) (by omega))
      clear hx hv hcl
      obtain ⟨g, c, hv5, hbase, hgl⟩ := HR.out.form HV.out
      subst hv5
      have HGB := Aside0.mk (And.intro hbase hgl)
      clear hbase hgl
      have HFL := Aside0.mk (show (filtL (la.take i) lb).length ≤ i by unfold filtL; refine Nat.le_trans (List.length_filter_le _ _) ?_; rw [List.length_take]; omega)
      cases hf : (getL lb x).isNone with
      | true =>
        have HF := Aside0.mk hf
        clear hf
        go_wp2_with fail
        refine HN.out.mono ?_
        rintro e w1 ⟨rfl, hb1⟩
        rw [HF.out]
        have HB1 := Aside0.mk (below_step HBW.out hb1)
        have HR1 := Aside0.mk (show RowLb w1 w.heap.size (.slice (some ⟨g, 0, none⟩) (filtL (la.take i) lb).length c) (filtL (la.take i) lb) from HR.out.next hb1)
        have e0 := (hb1.cell (p := ⟨b, off + i * 2, none⟩) hblt).trans c0
        have e1 := (hb1.cell (p := ⟨b, off + i * 2 + 1, none⟩) hblt).trans c1
        clear hb1
        go_wp2_with (at_builtin; refine wpList_append_own _ rfl _ _ 22 rfl w.heap.size 70 i0 (.agg #[.string ⟨#[]⟩, .string ⟨#[]⟩]) 2 32 Tryz.underlying22 HI.out.1 HI.out.2.1 HI.out.2.2.1 HI.out.2.2.2 rfl (by decide) _ _ _ rfl (World.ownsRow.alloc HR1.out _) ⟨w1.heap.size, 0, none⟩ 1 1 [.string x, .string v] rfl rfl (cell_two_new _ _ _ _) (by simp [Value.oneCell']) (by have := HFL.out; unfold maxLen; omega) (by have := HFL.out; omega) (by have := HB1.out.size; simp; omega) ?_; intro v' w3 hown' hg3 hnil3; have HR3 := Aside0.mk hown'; have HG3 := Aside0.mk (And.intro hg3 hnil3); clear hown' hg3 hnil3)
        try go_frame
        go_roundg g1
        case measure => omega
        case rel => exact ⟨i + 1, by go_num, by omega, by omega, ⟨by rw [filtL_take hlt, HXY.out]; show RowLb w3 _ _ (_ ++ (if (getL lb x).isNone = true then [(x, v)] else [])); rw [HF.out, if_pos rfl]; have := HR3.out; unfold RowLb; rw [List.length_append, cellsL_append]; exact this⟩, ⟨fun hv' => by have := (HG3.out.2.1 hv').1; cases this⟩, ⟨(below_alloc HB1.out _).grown HG3.out.1 (by have := HB1.out.size; simp; omega) (fun j hj => (World.ownsRow.lt HR1.out j hj).1)⟩⟩
      | false =>
        have HF := Aside0.mk hf
        clear hf
        go_wp2_with fail
        refine HN.out.mono ?_
        rintro e w1 ⟨rfl, hb1⟩
        rw [HF.out]
        have HB1 := Aside0.mk (below_step HBW.out hb1)
        have HR1 := Aside0.mk (HR.out.next hb1)
        clear hb1
        go_wp2_with fail
        go_roundg g1
        case measure => omega
        case rel => exact ⟨i + 1, by go_num, by omega, by omega, ⟨by rw [filtL_take hlt, HXY.out]; show RowLb w1 _ _ (_ ++ (if (getL lb x).isNone = true then [(x, v)] else [])); rw [HF.out]; simpa using HR1.out⟩, ⟨by simp⟩, HB1⟩
    · have HE := Aside0.mk (show i = la.length by omega)
      clear hig hile
      obtain ⟨g, c, hv5, hbase, hgl⟩ := HR.out.form HV.out
      subst hv5
      go_wp2_with fail
      go_ret
      have hr := HR.out
      rw [HE.out, List.take_length] at hr
      exact ⟨g, c, by rw [HE.out, List.take_length]; rfl, hr, HBW.out⟩
end Go.Proofs.YtobbfenkdnaanaaGreatDoor

namespace Go.Proofs.YtobbfenkdnaanaaGreatDoor
open Go.RowKit Go.Maps Go.WideMaps Go.Sort Go.Lib

/-- A label's two cells. -/
def encL (p : ByteArray × ByteArray) : List Value := [.string p.1, .string p.2]
theorem encL_len (p : ByteArray × ByteArray) : (encL p).length = 2 := rfl
theorem encL_one (p : ByteArray × ByteArray) : ∀ v ∈ encL p, v.oneCell' = true := fun v h => by
  simp only [encL, List.mem_cons, List.not_mem_nil, or_false] at h
  rcases h with rfl | rfl <;> rfl

theorem insLaid : LaysGg.n26 Tryz.prog Tryz.stab_ren.viaGt := LaysGt.n29.elder { Tryz.stab with }

theorem sortWorldK_behind (W : World) (o : Obj) (blk n : Nat) (X : Array (ByteArray × ByteArray)) (os : Array Obj) (hblk : blk < W.heap.size) : ∃ os', sortWorldK encL 2 (W.alloc o) blk 0 n X os = sortWorldK encL 2 W blk 0 n X os' := by
  refine ⟨#[o] ++ os, ?_⟩
  have h := sortWorldK_of_alloc encL 2 W o blk 0 n X hblk
  unfold sortWorldK at h ⊢
  rw [h, grow_grow]

set_option maxHeartbeats 2000000 in
set_option maxRecDepth 100000 in
theorem stable_calls (g : Nat) (lb : Array Value) (sf : Nat) (sb : Array Value) (blk : Nat) (d : Array (ByteArray × ByteArray)) (W : World)
    (eg : ∀ args w, (callFunc g args).run Tryz.prog w = .ok (.enter g args) w) (hless : LessReadsK Tryz.prog g lb encL 2 ltN blk 0 d.size W) (hswap : SwapSwapsK Tryz.prog sf sb encL 2 blk 0 d.size)
    (hH : HoldsK encL 2 W blk 0 d) (hblk : blk < W.heap.size) (h20 : d.size ≤ 20) :
    Calls Tryz.prog 203 #[.agg #[.func (.func g) #[] lb, .func (.func sf) #[] sb], .int .i64 d.size] W fun e w' => e = .returned (.tuple #[]) ∧ ∃ n os, w' = sortWorldK encL 2 W blk 0 n (Sort.insertionSort ltN d 0 d.size) os := by
  have hSW := (SWK.start hH).alloc (.cells #[.func (.func g) #[] lb, .func (.func sf) #[] sb] 109)
  have hc : Calls Tryz.prog 131 #[.agg #[.func (.func g) #[] lb, .func (.func sf) #[] sb], .int .i64 (0 : Nat), .int .i64 d.size] (W.alloc (.cells #[.func (.func g) #[] lb, .func (.func sf) #[] sb] 109)) fun e w' => e = .returned (.tuple #[]) ∧ ∃ n os, w' = sortWorldK encL 2 (W.alloc (.cells #[.func (.func g) #[] lb, .func (.func sf) #[] sb] 109)) blk 0 n (Sort.insertionSort ltN d 0 d.size) os :=
    Any.insertionSort_func_cells_w insLaid encL 2 encL_len ltN g lb sf sb blk 0 0 d.size d _ eg (hSW.lessReads hless hblk rfl) hswap (hSW.holds hblk hH rfl) (hSW.lt hblk) (Nat.zero_le _) (Nat.le_refl _) (by omega)
  have hn : ∀ w1, Calls Tryz.prog 131 #[.agg #[.func (.func g) #[] lb, .func (.func sf) #[] sb], .int .i64 (20 : Nat), .int .i64 (20 : Nat)] w1 fun e w' => e = .returned (.tuple #[]) ∧ w' = w1.alloc (.cells #[.func (.func g) #[] lb, .func (.func sf) #[] sb] 109) := fun w1 =>
    Any.insertionSort_func_none insLaid (.func g) #[] lb sf sb 20 20 (by omega) (by omega) w1
  have bx : ∀ (k : Nat) (v : Value), (W.alloc (.cells #[.func (.func g) #[] lb, .func (.func sf) #[] sb] 109)).cell? ⟨W.heap.size, k, none⟩ = some v → ∀ n (X : Array (ByteArray × ByteArray)) os, (sortWorldK encL 2 (W.alloc (.cells #[.func (.func g) #[] lb, .func (.func sf) #[] sb] 109)) blk 0 n X os).cell? ⟨W.heap.size, k, none⟩ = some v := fun k v h n X os => by
    unfold sortWorldK
    rw [cell?_grow _ _ _ (by rw [size_putRowK]; show W.heap.size < (W.alloc _).heap.size; simp), cell?_putRowK_other encL 2 _ blk 0 _ _ (show W.heap.size ≠ blk by omega)]; exact h
  have bx0 := bx 0 (.func (.func g) #[] lb) (by simp)
  have bx1 := bx 1 (.func (.func sf) #[] sb) (by simp)
  have HB := Aside0.mk hblk
  clear hless hswap hH hSW bx
  rcases Nat.lt_or_ge d.size 20 with h | h
  · clear bx0 bx1 hn
    go_enter Tryz.func203, Tryz.ntmps203
    go_wp2
    refine wp_loop_rounds 1 ?_
    rw [rounds_succ]
    go_wp2_with (go_at_call 131; refine hc.mono ?_; rintro e w1 ⟨rfl, n, os, rfl⟩)
    refine wp_loop_rounds 1 ?_
    rw [rounds_succ]
    go_wp2
    all_goals first
      | (exfalso; omega)
      | (go_end0
         obtain ⟨os', ho⟩ := sortWorldK_behind W (.cells #[.func (.func g) #[] lb, .func (.func sf) #[] sb] 109) blk n (Sort.insertionSort ltN d 0 d.size) os HB.out
         exact ⟨rfl, n, os', ho⟩)
  · have h' : d.size = 20 := by omega
    rw [h'] at hc ⊢
    clear h h' h20 eg
    go_enter Tryz.func203, Tryz.ntmps203
    go_wp2
    refine wp_loop_rounds 2 ?_
    rw [rounds_succ]
    go_wp2_with (go_at_call_of 131 (Value.int .i64 0); refine hc.mono ?_; rintro e w1 ⟨rfl, n, os, rfl⟩)
    rw [rounds_succ]
    go_wp2_with (go_at_call 131; refine (hn _).mono ?_; rintro e w2 ⟨rfl, rfl⟩)
    refine wp_loop_rounds 1 ?_
    rw [rounds_succ]
    go_wp2
    go_end0
    obtain ⟨os', ho⟩ := sortWorldK_behind W (.cells #[.func (.func g) #[] lb, .func (.func sf) #[] sb] 109) blk n (Sort.insertionSort ltN d 0 20) os HB.out
    refine ⟨rfl, n, os' ++ #[.cells #[.func (.func g) #[] lb, .func (.func sf) #[] sb] 109], ?_⟩
    rw [ho]
    unfold sortWorldK
    rw [alloc_eq_grow, grow_grow]

noncomputable def siT : TypeInfo := (Tryz.prog.info? 22).get (by kernel_rfl)
noncomputable def siE : TypeInfo := (Tryz.prog.info? 70).get (by kernel_rfl)
theorem siT_is : Tryz.prog.info? 22 = some siT := by kernel_rfl
theorem siE_is : Tryz.prog.info? 70 = some siE := by kernel_rfl
theorem siK0 : Lib.swapperK 0 siE 25 = 1 := rfl
theorem siK1 : Lib.swapperK 1 siE 25 = 2 := rfl
theorem siK2 (n : Nat) (h : 2 ≤ n) : Lib.swapperK n siE 25 = 9 := by
  have a : siE.hasPointers = true := by kernel_rfl
  have b : siE.bytes = 32 := by kernel_rfl
  have c : (n == 0) = false := by simp; omega
  have d : (n == 1) = false := by simp; omega
  simp [Lib.swapperK, a, b, c, d]

/-- **sort.SliceStable at no more than 20 labels.** -/
theorem sliceStable_calls (g : Nat) (lb : Array Value) (blk c : Nat) (d : Array (ByteArray × ByteArray)) (w : World)
    (eg : ∀ args w, (callFunc g args).run Tryz.prog w = .ok (.enter g args) w) (hless : LessReadsK Tryz.prog g lb encL 2 ltN blk 0 d.size w)
    (hH : HoldsK encL 2 w blk 0 d) (hblk : blk < w.heap.size) (h20 : d.size ≤ 20) :
    Calls Tryz.prog 142 #[.iface 22 (.slice (some ⟨blk, 0, none⟩) d.size c), .func (.func g) #[] lb] w fun e w' => e = .returned (.tuple #[]) ∧ ∃ n os, w' = sortWorldK encL 2 w blk 0 n (Sort.insertionSort ltN d 0 d.size) os := by
  rcases Nat.lt_or_ge d.size 2 with h2 | h2
  · have hs : Sort.insertionSort ltN d 0 d.size = d := by
      have h := insertionSort_holds (lt := ltN) swo_ltN d 0 d.size (Nat.zero_le _) (Nat.le_refl _)
      have hp := perm_of_in h.1
      obtain ⟨l⟩ := d
      apply Array.ext'
      rcases l with _ | ⟨x, _ | ⟨y, tl⟩⟩
      · exact List.perm_nil.1 hp
      · exact List.perm_singleton.1 hp
      · exfalso; have h5 : tl.length + 1 + 1 < 2 := h2; omega
    have hf : ∃ f, Tryz.prog.funcs.findIdx? (·.name == "internal/reflectlite" ++ ".Swapper$" ++ toString (swapperK d.size siE 25)) = some f := by
      rcases (show d.size = 0 ∨ d.size = 1 by omega) with e | e
      · rw [e, siK0]; exact ⟨120, by kernel_rfl⟩
      · rw [e, siK1]; exact ⟨121, by kernel_rfl⟩
    obtain ⟨f, hf⟩ := hf
    refine (Any.sort_SliceStable_tiny Tryz.stab 22 70 siT siE siT_is (by kernel_rfl) (by kernel_rfl) siE_is 25 (fun _ => by kernel_rfl) (some ⟨blk, 0, none⟩) d.size c (by omega) f hf (.func g) #[] lb w).mono ?_
    rintro e w' ⟨rfl, os, rfl⟩
    exact ⟨rfl, 0, os, by rw [hs]; unfold sortWorldK; rw [show Sort.ahead w 0 = w from rfl, putRowK_self encL 2 w blk 0 d hH]⟩
  · have hB : sliceBound Tryz.prog 70 siE 25 (some ⟨blk, 0, none⟩) d.size c = #[.slice (some ⟨blk, 0, none⟩) d.size c, typeHandle Tryz.prog 70] := by
      unfold sliceBound; rw [if_neg (swapperK_gt _ _ _ h2)]
    refine Any.sort_SliceStable_of_stable Tryz.stab 22 70 siT siE siT_is (by kernel_rfl) (by kernel_rfl) siE_is 25 (fun _ => by kernel_rfl) _ d.size c (by omega) 128 (by rw [siK2 _ h2]; kernel_rfl) (.func g) #[] lb w _ ?_
    have hW : stableWorld Tryz.prog Tryz.stab_ren 22 (some ⟨blk, 0, none⟩) d.size c w = grow w #[.cells #[.slice (some ⟨blk, 0, none⟩) d.size c] 22, .cells #[.pointer (some ⟨Tryz.prog.globals.size, 22, none⟩), .pointer (some ⟨w.heap.size, 0, none⟩), .int .u64 151] (Tryz.stab_ren.t 36)] := by
      unfold stableWorld; rw [alloc_eq_grow, alloc_eq_grow, grow_grow]; rfl
    generalize (#[.cells #[.slice (some ⟨blk, 0, none⟩) d.size c] 22, .cells #[.pointer (some ⟨Tryz.prog.globals.size, 22, none⟩), .pointer (some ⟨w.heap.size, 0, none⟩), .int .u64 151] (Tryz.stab_ren.t 36)] : Array Obj) = os0 at hW
    rw [hB, hW]
    have hx : ∀ args W, (callFunc 128 args).run Tryz.prog W = ((Extern.ReflectliteSwapper.swap false args).run Tryz.prog W).andThen fun v w' => .ok (.value v) w' :=
      fun args W => run_callFunc_extern Tryz.func128 (by kernel_rfl) (by kernel_rfl) (by kernel_rfl) (e := Extern.ReflectliteSwapper.swap false) (by kernel_rfl) args W
    refine (stable_calls g lb 128 _ blk d (grow w os0) eg (hless.grow hblk os0) (swapSwapsK_of_literal false 128 hx 70 siE siE_is encL 2 encL_len (by kernel_rfl) (fun _ => by kernel_rfl) encL_one blk 0 d.size c) (holdsK_grow encL 2 w _ blk 0 d hblk hH) (by rw [size_grow]; omega) h20).mono ?_
    rintro e w' ⟨rfl, n, os, rfl⟩
    exact ⟨rfl, n, _, by unfold sortWorldK; rw [ahead_grow, putRowK_grow encL 2 (Sort.ahead w n) _ blk 0 _ hblk, grow_grow]⟩
end Go.Proofs.YtobbfenkdnaanaaGreatDoor

namespace Go.Proofs.YtobbfenkdnaanaaGreatDoor
open Go.RowKit Go.Maps Go.WideMaps Go.Sort Go.Lib

theorem holds_of_row {w : World} {base g cap n : Nat} {l : LL} (h : RowLb w base (.slice (some ⟨g, 0, none⟩) n cap) l) : HoldsK encL 2 w g 0 l.toArray := by
  obtain ⟨_, rfl⟩ := h.labs
  have h' : w.ownsRow base 70 2 (.slice (some ⟨g, 0, none⟩) l.length cap) l.length (cellsL l) := h
  intro j hj
  rw [size_flatK, List.size_toArray] at hj
  have hi : j / 2 < l.length := by omega
  rw [get_flatK _ _ _ _ (by rw [List.size_toArray]; exact hj), Nat.zero_add]
  refine ⟨?_, h'.frozenAt j⟩
  rw [h'.cellAt j hj, getElem!_pos l.toArray (j / 2) (by simpa using hi)]
  have hc := cellsL_get l (j / 2) hi
  rcases (show j % 2 = 0 ∨ j % 2 = 1 by omega) with e | e
  · rw [e]
    have e2 : j / 2 * 2 = j := by omega
    rw [e2] at hc
    rw [hc.1]
    simp [encL]
  · rw [e]
    have e2 : j / 2 * 2 + 1 = j := by omega
    rw [e2] at hc
    rw [hc.2]
    simp [encL]
theorem labs_of_holds {w : World} {blk : Nat} {d : Array (ByteArray × ByteArray)} (h : HoldsK encL 2 w blk 0 d) (hb : blk < w.heap.size) : Labs w (some ⟨blk, 0, none⟩) d.toList := by
  refine .inr ⟨blk, 0, rfl, hb, fun i hi => ?_⟩
  have hi' : i < d.size := by simpa using hi
  have h0 := (h.cell (i := i) (c := 0) hi' (by omega)).1
  have h1 := (h.cell (i := i) (c := 1) hi' (by omega)).1
  rw [getElem!_pos d i hi'] at h0 h1
  exact ⟨by simpa [encL] using h0, by simpa [encL] using h1⟩

theorem ltN_is (p q : ByteArray × ByteArray) : Op.bytesLess p.1.toList q.1.toList = ltN p q := by
  rw [bytesLess_eq, ba_toList, ba_toList]; rfl

set_option maxHeartbeats 2000000 in
/-- The closure of Sorted. -/
theorem less_calls (blk c Bs n : Nat) (W : World) (G : Nat → ByteArray × ByteArray) (hs : W.cell? ⟨Bs, 0, none⟩ = some (.slice (some ⟨blk, 0, none⟩) n c))
    (hc : ∀ t, t < n → W.cell? ⟨blk, t * 2, none⟩ = some (.string (G t).1)) (i j : Nat) (hi : i < n) (hj : j < n) (hn : n ≤ 20) :
    Calls Tryz.prog 143 #[.int .i64 i, .int .i64 j, .pointer (some ⟨Bs, 0, none⟩)] W fun e w' => e = .returned (.bool (ltN (G i) (G j))) ∧ ∃ q, w' = W.drewN q := by
  have ci := hc i hi
  have cj := hc j hj
  rw [← ltN_is]
  go_enter Tryz.func143, Tryz.ntmps143
  go_wp2
  go_quiet (fail)
  go_wp2
  go_ret
  exact ⟨rfl, nq, rfl⟩

/-- The labels, sorted by name. -/
def srtL (l : LL) : LL := (Sort.insertionSort ltN l.toArray 0 l.length).toList

theorem srtL_length (l : LL) : (srtL l).length = l.length := by
  have h : (Sort.insertionSort ltN l.toArray 0 l.length).size = l.length := (insertionSort_holds (lt := ltN) swo_ltN l.toArray 0 l.toArray.size (Nat.zero_le _) (Nat.le_refl _)).1.1
  exact h
theorem grownBy_sortedL {w : World} {g n : Nat} {os : Array Obj} (d : Array (ByteArray × ByteArray)) : w.grownBy (sortWorldK encL 2 w g 0 n d os) (some g) := by
  refine ⟨rfl, rfl, rfl, by unfold sortWorldK; rw [size_grow, size_putRowK]; show w.heap.size ≤ w.heap.size + _; omega, fun k hk hne => ?_⟩
  unfold sortWorldK
  rw [heap_grow_old _ _ (by rw [size_putRowK]; exact hk)]
  have : g ≠ k := fun e => hne (by rw [e])
  simp [putRowK, putRow, mapBlock, Sort.ahead, Array.getElem?_modify, this]
theorem lessReads_of {w : World} {g c B : Nat} {l : LL} (hB : w.cell? ⟨B, 0, none⟩ = some (.slice (some ⟨g, 0, none⟩) l.length c)) (hH : HoldsK encL 2 w g 0 l.toArray) (hg : g < w.heap.size) (hBl : B < w.heap.size) (hne : B ≠ g) (h20 : l.length ≤ 20) :
    LessReadsK Tryz.prog 143 #[.pointer (some ⟨B, 0, none⟩)] encL 2 ltN g 0 l.toArray.size w := by
  intro m os dk hs i j hi hj
  rw [List.size_toArray] at hi hj
  have hs' : dk.size = l.length := by rw [hs, List.size_toArray]
  have hh := holdsK_sortWorldK encL 2 w g 0 m l.toArray dk os hg hH hs
  refine less_calls g c B l.length _ (fun t => dk[t]!) ?_ (fun t ht => ?_) i j hi hj h20
  · unfold sortWorldK
    rw [cell?_grow _ _ _ (by rw [size_putRowK]; exact hBl), cell?_putRowK_other encL 2 _ g 0 _ _ hne]
    exact hB
  · have := (hh.cell (i := t) (c := 0) (by rw [hs']; exact ht) (by omega)).1
    rw [Nat.zero_add] at this
    exact this

set_option maxHeartbeats 2000000 in
set_option maxRecDepth 100000 in
theorem sorted_calls (g0 cap : Nat) (l : LL) (w : World) (hl : Labs w (some ⟨g0, 0, none⟩) l) (hg0 : g0 < w.heap.size) (h20 : l.length ≤ 20) :
    Calls Tryz.prog 82 #[.slice (some ⟨g0, 0, none⟩) l.length cap] w fun e w' => ∃ g c, e = .returned (.slice (some ⟨g, 0, none⟩) (srtL l).length c) ∧ Labs w' (some ⟨g, 0, none⟩) (srtL l) ∧ Below w.heap.size w w' := by
  have HL := Aside0.mk hl
  have HR0 := Aside0.mk (rowLb_empty w)
  have HK := Aside0.mk (below_alloc (Below.refl w.heap.size w) (Obj.cells #[] 70))
  have HNA := Aside0.mk (show ∀ (j : Nat) (u : Value), (cellsL l)[j]? = some u → (w.alloc (.cells #[] 70)).cell? ((⟨g0, 0, none⟩ : Addr).add j) = some u from fun j u hu => by
    rcases hl with rfl | ⟨b, off, ha, hblt, hc⟩
    · simp [cellsL] at hu
    · cases ha
      have := labs_cells hc j u hu
      rw [addr_add] at this ⊢
      exact (HK.out.cell (p := ⟨g0, 0 + j, none⟩) hg0).trans this)
  obtain ⟨i0, hi, hz0, hz1, hz2⟩ := info_parts infoLb
  have HI := Aside0.mk (And.intro hi (And.intro hz0 (And.intro hz1 hz2)))
  clear hl hi hz0 hz1 hz2
  go_enter Tryz.func82, Tryz.ntmps82
  go_wp2_with (at_builtin; refine wpList_append_own _ rfl _ _ 22 rfl w.heap.size 70 i0 (.agg #[.string ⟨#[]⟩, .string ⟨#[]⟩]) 2 32 Tryz.underlying22 HI.out.1 HI.out.2.1 HI.out.2.2.1 HI.out.2.2.2 rfl (by decide) (.slice (some ⟨w.heap.size, 0, none⟩) 0 0) _ _ rfl HR0.out ⟨g0, 0, none⟩ l.length cap (cellsL l) rfl (cellsL_length l) HNA.out (cellsL_one l) ?q1 ?q2 ?q3 ?_)
  case q1 => rw [List.length_nil]; unfold maxLen; omega
  case q2 => rw [List.length_nil]; omega
  case q3 => simp
  intro v1 w1 ho1 hg1 hn1
  have HB1 := Aside0.mk (HK.out.grown hg1 (by simp) (fun k hk => by simp [Value.ownBlock] at hk; omega))
  have HO1 := Aside0.mk (show RowLb w1 w.heap.size v1 l by exact ho1)
  obtain ⟨g, c, hv1, hbase, hgl⟩ := HO1.out.form hn1
  subst hv1
  have HG := Aside0.mk (And.intro hbase hgl)
  have HS := Aside0.mk (show Labs w1 (some ⟨g, 0, none⟩) l from HO1.out.labs.1)
  have hH := holds_of_row HO1.out
  have e1 : w1.heap.size ≠ g := by omega
  have HSS := Aside0.mk (show ∀ W : World, W = w1.alloc (.cells #[.slice (some ⟨g, 0, none⟩) l.length c] 22) → Calls Tryz.prog 142 #[.iface 22 (.slice (some ⟨g, 0, none⟩) l.length c), .func (.func 143) #[] #[.pointer (some ⟨w1.heap.size, 0, none⟩)]] W fun e w' => e = .returned (.tuple #[]) ∧ w'.cell? ⟨w1.heap.size, 0, none⟩ = some (.slice (some ⟨g, 0, none⟩) l.length c) ∧ Labs w' (some ⟨g, 0, none⟩) (srtL l) ∧ Below w.heap.size w w' from fun W hW => by
    have hHW : HoldsK encL 2 W g 0 l.toArray := by rw [hW, alloc_eq_grow]; exact holdsK_grow encL 2 w1 _ g 0 _ hgl hH
    have hgW : g < W.heap.size := by rw [hW]; simp; omega
    have h := sliceStable_calls 143 #[.pointer (some ⟨w1.heap.size, 0, none⟩)] g c l.toArray W (enters_of Tryz.func143 (by kernel_rfl) rfl)
      (lessReads_of (c := c) (by rw [hW]; simp [go_sem]) hHW hgW (by rw [hW]; simp) e1 h20) hHW hgW (by rw [List.size_toArray]; exact h20)
    rw [List.size_toArray] at h
    refine h.mono ?_
    rintro e w' ⟨rfl, n, os, rfl⟩
    have hsz : (Sort.insertionSort ltN l.toArray 0 l.length).size = l.toArray.size := by
      exact (insertionSort_holds (lt := ltN) swo_ltN l.toArray 0 l.toArray.size (Nat.zero_le _) (Nat.le_refl _)).1.1
    refine ⟨rfl, ?_, ?_, ?_⟩
    · unfold sortWorldK
      rw [cell?_grow _ _ _ (by rw [size_putRowK]; show _ < W.heap.size; rw [hW]; simp), cell?_putRowK_other encL 2 _ g 0 _ _ e1]
      show W.cell? _ = _
      rw [hW]; simp [go_sem]
    · exact labs_of_holds (holdsK_sortWorldK encL 2 W g 0 n l.toArray _ os hgW hHW hsz) (lt_sortWorldK encL 2 W g 0 n _ os hgW)
    · have hbw : Below w.heap.size w W := by rw [hW]; exact below_alloc HB1.out _
      exact hbw.grown (grownBy_sortedL _) hbw.size (fun k hk => by cases hk; exact hbase))
  have HHW := Aside0.mk hH
  clear ho1 hg1 hn1 hbase hgl hH e1
  go_wp2_with (go_at_call 142; refine (HSS.out _ rfl).mono ?_; rintro e w2 ⟨rfl, hbx, hlw, hbw⟩; have HLW := Aside0.mk (And.intro hlw hbw); clear hlw hbw)
  go_ret
  exact ⟨g, c, by rw [srtL_length]; rfl, HLW.out.1, HLW.out.2⟩
end Go.Proofs.YtobbfenkdnaanaaGreatDoor

namespace Go.Proofs.YtobbfenkdnaanaaGreatDoor
open Go.RowKit Go.Maps Go.WideMaps Go.Sort Go.Lib

theorem RowLb.mono {w : World} {base base' : Nat} {v : Value} {l : LL} (h : RowLb w base v l) (hb : base' ≤ base) : RowLb w base' v l := by
  obtain ⟨h1, h2⟩ := h
  refine ⟨h1, h2.imp id ?_⟩
  rintro ⟨g, cap, cur, hv, hbase, hg⟩
  exact ⟨g, cap, cur, hv, Nat.le_trans hb hbase, hg⟩

set_option maxHeartbeats 2000000 in
set_option maxRecDepth 100000 in
theorem smerge_calls (a a' : Option Addr) (cap cap' : Nat) (la lb : LL) (w : World) (hla : Labs w a la) (hlb : Labs w a' lb) (hn : a' = none → cap' = 0) (hsa : la.length ≤ 10) (hsb : lb.length ≤ 10) :
    Calls Tryz.prog 27 #[.slice a la.length cap, .slice a' lb.length cap'] w fun e w' => ∃ g c, e = .returned (.slice (some ⟨g, 0, none⟩) (mrgS la lb).length c) ∧ Labs w' (some ⟨g, 0, none⟩) (mrgS la lb) ∧ Below w.heap.size w w' := by
  have HK := Aside0.mk (below_alloc (Below.refl w.heap.size w) (Obj.cells #[Value.slice a' lb.length cap'] 22))
  have HL := Aside0.mk (And.intro (hla.next HK.out) (hlb.next HK.out))
  have HSZ := Aside0.mk (show (filtL la lb).length ≤ 10 from Nat.le_trans (List.length_filter_le _ _) hsa)
  have HM := Aside0.mk (show (mrgL la lb).length = (filtL la lb).length + lb.length by unfold mrgL; rw [List.length_append])
  obtain ⟨i0, hi, hz0, hz1, hz2⟩ := info_parts infoLb
  have HI := Aside0.mk (And.intro hi (And.intro hz0 (And.intro hz1 hz2)))
  have HNIL := Aside0.mk hn
  have HLB := Aside0.mk hlb
  clear hla hlb hi hz0 hz1 hz2 hn
  go_enter Tryz.func27, Tryz.ntmps27
  go_wp2_with fail
  refine (filter_calls w.heap.size a a' cap cap' la lb _ HL.out.1 (by simp [go_sem]) (by simp) HL.out.2 hsa hsb).mono ?_
  rintro e w1 ⟨g, c, rfl, hrow, hb1⟩
  have HB1 := Aside0.mk (below_step HK.out hb1)
  have hrow' : RowLb w1 w.heap.size (.slice (some ⟨g, 0, none⟩) (filtL la lb).length c) (filtL la lb) := hrow.mono (by simp)
  have HO1 := Aside0.mk hrow'
  have HF := Aside0.mk (And.intro hrow'.labs.1 (World.ownsRow.lt hrow' g rfl))
  have HL1 := Aside0.mk (HLB.out.next HB1.out)
  have cb := (hb1.cell (p := ⟨w.heap.size, 0, none⟩) (by simp)).trans (show (w.alloc (Obj.cells #[Value.slice a' lb.length cap'] 22)).cell? ⟨w.heap.size, 0, none⟩ = some (.slice a' lb.length cap') by simp [go_sem])
  clear hrow hrow' hb1
  cases a' with
  | none =>
    have hc0 := HNIL.out rfl
    subst hc0
    obtain rfl : lb = [] := by
      rcases HL1.out with h | ⟨b, off, ha, _⟩
      · exact h
      · cases ha
    have HMN := Aside0.mk (show mrgL la [] = filtL la [] by unfold mrgL; rw [List.append_nil])
    go_wp2_with (at_builtin; refine wpList_append_own_none rfl _ _ 22 rfl w.heap.size 70 i0 2 Tryz.underlying22 HI.out.1 _ _ _ rfl HO1.out rfl ?_)
    refine (sorted_calls g c (filtL la []) _ HF.out.1 HF.out.2.2 (by have := HSZ.out; omega)).mono ?_
    rintro e w2 ⟨g2, c2, rfl, hl2, hb2⟩
    have HB2 := Aside0.mk (below_step HB1.out hb2)
    have HR := Aside0.mk (show srtL (filtL la []) = mrgS la [] by rw [← HMN.out]; rfl)
    have HL2 := Aside0.mk hl2
    clear hl2 hb2
    go_wp2
    go_ret
    exact ⟨g2, c2, by rw [HR.out]; rfl, by rw [← HR.out]; exact HL2.out, HB2.out⟩
  | some p =>
    have HNA := Aside0.mk (show ∀ (j : Nat) (u : Value), (cellsL lb)[j]? = some u → w1.cell? (p.add j) = some u from fun j u hu => by
      rcases HL1.out with rfl | ⟨b, off, ha, hblt, hc⟩
      · simp [cellsL] at hu
      · cases ha
        exact labs_cells hc j u hu)
    go_wp2_with (at_builtin; refine wpList_append_own _ rfl _ _ 22 rfl w.heap.size 70 i0 (.agg #[.string ⟨#[]⟩, .string ⟨#[]⟩]) 2 32 Tryz.underlying22 HI.out.1 HI.out.2.1 HI.out.2.2.1 HI.out.2.2.2 rfl (by decide) _ _ _ rfl HO1.out p lb.length cap' (cellsL lb) rfl (cellsL_length lb) HNA.out (cellsL_one lb) (by have := HSZ.out; unfold maxLen; omega) (by have := HSZ.out; omega) HB1.out.size ?_; intro v2 w2 ho2 hg2 hn2; have HX := Aside0.mk (And.intro ho2 (And.intro hg2 hn2)); clear ho2 hg2 hn2)
    have hrow : RowLb w2 w.heap.size v2 (mrgL la lb) := by
      have := HX.out.1
      unfold RowLb mrgL
      rw [List.length_append, cellsL_append]
      exact this
    have hv2 : v2 ≠ .slice none 0 0 := fun e => by have := (HX.out.2.2.1 e).1; cases this
    obtain ⟨g2, c2, hv, hgb, hgl⟩ := hrow.form hv2
    subst hv
    have HB2 := Aside0.mk (HB1.out.grown HX.out.2.1 HB1.out.size (fun k hk => (World.ownsRow.lt HO1.out k hk).1))
    have HL2 := Aside0.mk (And.intro hrow.labs.1 hgl)
    clear hrow hv2 hgb hgl
    go_wp2_with fail
    refine (sorted_calls g2 c2 (mrgL la lb) _ HL2.out.1 HL2.out.2 (by have := HSZ.out; have := HM.out; omega)).mono ?_
    rintro e w3 ⟨g3, c3, rfl, hl3, hb3⟩
    have HB3 := Aside0.mk (below_step HB2.out hb3)
    have HL3 := Aside0.mk (show Labs w3 (some ⟨g3, 0, none⟩) (mrgS la lb) from hl3)
    have hR : srtL (mrgL la lb) = mrgS la lb := rfl
    rw [hR]
    clear hl3 hb3 hR
    go_wp2
    go_ret
    exact ⟨g3, c3, rfl, HL3.out, HB3.out⟩
end Go.Proofs.YtobbfenkdnaanaaGreatDoor

namespace Go.Proofs.YtobbfenkdnaanaaGreatDoor
open Go.RowKit Go.Maps Go.WideMaps Go.Sort Go.Lib

def cfN (p q : ByteArray × ByteArray) : Int := if Op.bytesLess p.1.toList q.1.toList then -1 else if p.1.toList == q.1.toList then 0 else 1
theorem cfN_lt (p q : ByteArray × ByteArray) : decide (cfN p q < 0) = ltN p q := by
  rw [← ltN_is]
  unfold cfN
  cases Op.bytesLess p.1.toList q.1.toList with
  | true => rfl
  | false =>
    cases p.1.toList == q.1.toList <;> rfl

set_option maxHeartbeats 1000000 in
theorem cmp79_calls (p q : ByteArray × ByteArray) (W : World) : Calls Tryz.prog 79 #[.agg (encL p).toArray, .agg (encL q).toArray] W fun e w' => e = .returned (.int .i64 (cfN p q)) ∧ ∃ n os', w' = grow (W.drewN n) os' := by
  obtain ⟨x, u⟩ := p
  obtain ⟨y, v⟩ := q
  show Calls Tryz.prog 79 #[.agg #[.string x, .string u], .agg #[.string y, .string v]] W _
  cases h1 : Op.bytesLess x.toList y.toList with
  | true =>
    have HE := Aside0.mk (show cfN (x, u) (y, v) = -1 by unfold cfN; simp [h1])
    go_enter Tryz.func79, Tryz.ntmps79
    go_wp2
    go_ret
    exact ⟨by rw [HE.out]; rfl, 0, _, by rw [alloc_eq_grow, alloc_eq_grow, grow_grow]; rfl⟩
  | false =>
    cases h2 : (x.toList == y.toList) with
    | true =>
      have HE := Aside0.mk (show cfN (x, u) (y, v) = 0 by unfold cfN; simp only [h1, h2]; rfl)
      go_enter Tryz.func79, Tryz.ntmps79
      go_wp2
      go_ret
      exact ⟨by rw [HE.out]; rfl, 0, _, by rw [alloc_eq_grow, alloc_eq_grow, grow_grow]; rfl⟩
    | false =>
      have HE := Aside0.mk (show cfN (x, u) (y, v) = 1 by unfold cfN; simp only [h1, h2]; rfl)
      go_enter Tryz.func79, Tryz.ntmps79
      go_wp2
      go_ret
      exact ⟨by rw [HE.out]; rfl, 0, _, by rw [alloc_eq_grow, alloc_eq_grow, grow_grow]; rfl⟩
end Go.Proofs.YtobbfenkdnaanaaGreatDoor
