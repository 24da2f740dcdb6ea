/- Sets of labels in order: what the maps tell is what the lists tell (plain). -/
import Derived.Test.YtobbfenkdnaanaaGreatDoorBefA
import Derived.Test.YtobbfenkdnaanaaGreatDoorSpFA
import Derived.Test.YtobbfenkdnaanaaGreatDoorSpSA
set_option linter.unusedVariables false
set_option linter.unusedSimpArgs false
namespace Go.Proofs.YtobbfenkdnaanaaGreatDoor
open Go.RowKit Go.Maps Go.WideMaps Go.Sort

/-- The names rise. -/
def Rise (l : LL) : Prop := l.Pairwise (fun p q => p.1.data.toList < q.1.data.toList)
theorem rise_of {l : LL} (h : InOrd l) : Rise l := by
  unfold Rise
  induction l with
  | nil => exact List.Pairwise.nil
  | cons p l ih =>
    have ht : InOrd l := fun i hi => by
      have := h (i + 1) (by simpa using hi)
      simpa using this
    refine List.pairwise_cons.2 ⟨fun q hq => ?_, ih ht⟩
    cases l with
    | nil => cases hq
    | cons r l =>
      have h0 := h 0 (by simp)
      simp only [List.getElem_cons_zero, List.getElem_cons_succ] at h0
      rw [bytesLess_eq, ba_toList, ba_toList] at h0
      have h1 : p.1.data.toList < r.1.data.toList := of_decide_eq_true h0
      rcases List.mem_cons.1 hq with rfl | hq
      · exact h1
      · exact List.lt_trans h1 ((List.pairwise_cons.1 (ih ht)).1 q hq)
theorem once_of_rise {l : LL} (h : Rise l) : Once l := by
  unfold Once
  refine List.pairwise_map.2 (h.imp fun {p q} hlt e => ?_)
  rw [e] at hlt
  exact List.lt_irrefl _ hlt
theorem rise_len : ∀ {lb la : LL}, Rise la → Rise lb → (∀ p ∈ la, p ∈ lb) → la.length ≤ lb.length
  | [], la, _, _, h => by
    cases la with
    | nil => exact Nat.le_refl _
    | cons p la => exact absurd (h p (List.mem_cons_self ..)) (by simp)
  | q :: lb, [], _, _, _ => Nat.zero_le _
  | q :: lb, p :: la, ha, hb, h => by
    have ha' := List.pairwise_cons.1 ha
    have hb' := List.pairwise_cons.1 hb
    by_cases e : p = q
    · subst e
      have := rise_len (lb := lb) (la := la) ha'.2 hb'.2 (fun r hr => by
        rcases List.mem_cons.1 (h r (List.mem_cons_of_mem _ hr)) with rfl | h'
        · exact absurd (ha'.1 r hr) (List.lt_irrefl _)
        · exact h')
      simp only [List.length_cons]
      omega
    · have hp : p ∈ lb := (List.mem_cons.1 (h p (List.mem_cons_self ..))).resolve_left e
      have := rise_len (lb := lb) (la := p :: la) ha hb'.2 (fun r hr => by
        rcases List.mem_cons.1 (h r hr) with rfl | h'
        · exfalso
          have h1 := hb'.1 p hp
          rcases List.mem_cons.1 hr with rfl | hr
          · exact e rfl
          · exact List.lt_irrefl _ (List.lt_trans h1 (ha'.1 r hr))
        · exact h')
      simp only [List.length_cons] at this ⊢
      omega
theorem rise_eq : ∀ {lb la : LL}, Rise la → Rise lb → la.length = lb.length → (∀ p ∈ la, p ∈ lb) → la = lb
  | [], la, _, _, hl, _ => List.eq_nil_of_length_eq_zero hl
  | q :: lb, [], _, _, hl, _ => by simp at hl
  | q :: lb, p :: la, ha, hb, hl, h => by
    have ha' := List.pairwise_cons.1 ha
    have hb' := List.pairwise_cons.1 hb
    by_cases e : p = q
    · subst e
      have := rise_eq (lb := lb) (la := la) ha'.2 hb'.2 (by simpa using hl) (fun r hr => by
        rcases List.mem_cons.1 (h r (List.mem_cons_of_mem _ hr)) with rfl | h'
        · exact absurd (ha'.1 r hr) (List.lt_irrefl _)
        · exact h')
      rw [this]
    · exfalso
      have hp : p ∈ lb := (List.mem_cons.1 (h p (List.mem_cons_self ..))).resolve_left e
      have := rise_len (lb := lb) (la := p :: la) ha hb'.2 (fun r hr => by
        rcases List.mem_cons.1 (h r hr) with rfl | h'
        · exfalso
          have h1 := hb'.1 p hp
          rcases List.mem_cons.1 hr with rfl | hr
          · exact e rfl
          · exact List.lt_irrefl _ (List.lt_trans h1 (ha'.1 r hr))
        · exact h')
      rw [hl] at this
      simp only [List.length_cons] at this
      omega
theorem same_eq {la lb : LL} (ha : Rise la) (hb : Rise lb) : sameB la lb = eqLB la lb := by
  by_cases h : la = lb
  · subst h
    rw [eqLB_true rfl, sameB_true ⟨rfl, fun p hp => getL_of_mem (once_of_rise ha) hp⟩]
  · rw [eqLB_false h]
    exact sameB_false fun hs => h (rise_eq ha hb hs.1 fun p hp => getL_some (hs.2 p hp))
theorem sortN_rise {l : LL} (h : Rise l) : sortN (l.map Prod.fst) = l.map Prod.fst := by
  have hs : ((l.map Prod.fst).map (fun x => x.data.toList)).mergeSort leB = (l.map Prod.fst).map (fun x => x.data.toList) := by
    have tr : ∀ a b c : List UInt8, leB a b = true → leB b c = true → leB a c = true := fun a b c h1 h2 => by simp only [leB, decide_eq_true_eq] at *; exact List.le_trans h1 h2
    have to : ∀ a b : List UInt8, (leB a b || leB b a) = true := fun a b => by simp only [leB, Bool.or_eq_true, decide_eq_true_eq]; exact List.le_total a b
    refine List.Perm.eq_of_pairwise (le := fun a b => leB a b = true) (fun a b _ _ h1 h2 => ?_) (List.pairwise_mergeSort tr to _) ?_ (List.mergeSort_perm _ leB)
    · simp only [leB, decide_eq_true_eq] at h1 h2
      exact List.le_antisymm h1 h2
    · rw [List.map_map]
      refine List.pairwise_map.2 (h.imp fun {p q} hlt => ?_)
      simp only [leB, decide_eq_true_eq, Function.comp]
      exact List.le_of_lt hlt
  unfold sortN
  rw [hs, List.map_map]
  conv => rhs; rw [← List.map_id (l.map Prod.fst)]
  apply List.map_congr_left
  intro x _
  show (⟨x.data.toList.toArray⟩ : ByteArray) = x
  rw [Array.toArray_toList]
theorem fing_fold : ∀ (l0 l : LL) (h : Int), Once l0 → (∀ p ∈ l, p ∈ l0) → (l.map Prod.fst).foldl (fingF l0) h = fnvL h (flatL l)
  | l0, [], h, _, _ => rfl
  | l0, p :: l, h, ho, hm => by
    have e : flatL (p :: l) = flat1 p ++ flatL l := rfl
    rw [List.map_cons, List.foldl_cons, fing_fold l0 l _ ho (fun q hq => hm q (List.mem_cons_of_mem _ hq)), e, fnvL_append]
    congr 1
    unfold fingF flat1
    rw [getL_of_mem (v := p.2) ho (hm p (List.mem_cons_self ..)), fnvL_append, fnvL_append, fnvL_append]
    rfl
theorem fing_eq {l : LL} (h : Rise l) : fingH l = fnvL fnv0 (flatL l) := by
  unfold fingH
  split
  · rename_i h0
    rw [List.eq_nil_of_length_eq_zero h0]
    rfl
  · rw [sortN_rise h]
    exact fing_fold l l fnv0 (once_of_rise h) (fun _ hp => hp)
theorem sized_of {l : LL} (h : fewB l = true) : Sized l := by
  unfold fewB at h
  rw [Bool.and_eq_true, List.all_eq_true] at h
  refine ⟨by have := of_decide_eq_true h.2; omega, fun p hp => ?_⟩
  have := h.1 p hp
  unfold few1B at this
  rw [Bool.and_eq_true, Bool.and_eq_true] at this
  exact ⟨of_decide_eq_true this.1.2, of_decide_eq_true this.2⟩
theorem ord_of {l : LL} (h : ordB l = true) : Sized l ∧ Rise l := by
  unfold ordB at h
  rw [Bool.and_eq_true] at h
  exact ⟨sized_of h.1, rise_of (inOrdB_of h.2)⟩
end Go.Proofs.YtobbfenkdnaanaaGreatDoor
