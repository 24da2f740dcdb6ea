/- Unescaping by dots: replacing gives the text back (plain). -/
import Derived.Lib.Replace
set_option linter.unusedVariables false
set_option linter.unusedSimpArgs false
namespace Go.Proofs.YtaajhionmdjhjaaDoor


/-- What escaping by dots makes of letters, digits, colons and dots. -/
def dotL : List UInt8 → List UInt8
  | [] => []
  | c :: t => (if c = 46 then [95, 100, 111, 116, 95] else [c]) ++ dotL t

theorem replaceK_cons (o : UInt8) (old new : List UInt8) (k : Nat) (c : UInt8) (t : List UInt8) (h : c ≠ o) :
    Lib.replaceK (o :: old) new (k + 1) (c :: t) = c :: Lib.replaceK (o :: old) new (k + 1) t := by
  have hp : (o :: old).isPrefixOf (c :: t) = false := by
    simp only [List.isPrefixOf]
    rw [beq_eq_false_iff_ne.2 (Ne.symm h)]
    rfl
  have hi : Lib.index (c :: t) (o :: old) = if Lib.index t (o :: old) == -1 then -1 else Lib.index t (o :: old) + 1 := by
    rw [Lib.index, hp]; rfl
  have hge := Lib.index_ge t (o :: old)
  unfold Lib.replaceK
  rw [hi]
  by_cases hm : Lib.index t (o :: old) = -1
  · rw [hm]; rfl
  · have e1 : (Lib.index t (o :: old) == -1) = false := beq_eq_false_iff_ne.2 hm
    rw [e1]
    have e2 : ((if false = true then (-1 : Int) else Lib.index t (o :: old) + 1) == -1) = false := beq_eq_false_iff_ne.2 (by simp; omega)
    rw [e2]
    simp only [Bool.false_eq_true, if_false]
    obtain ⟨n, hn⟩ : ∃ n : Nat, Lib.index t (o :: old) = n := ⟨(Lib.index t (o :: old)).toNat, by omega⟩
    rw [hn]
    have e3 : ((n : Int) + 1).toNat = n + 1 := by omega
    rw [e3, Int.toNat_natCast]
    rw [List.take_succ_cons, show n + 1 + (o :: old).length = (n + (o :: old).length) + 1 by omega, List.drop_succ_cons]
    rfl
theorem replaceK_here (o : UInt8) (old new : List UInt8) (k : Nat) (t : List UInt8) :
    Lib.replaceK (o :: old) new (k + 1) (o :: old ++ t) = new ++ Lib.replaceK (o :: old) new k t := by
  have hi : Lib.index (o :: old ++ t) (o :: old) = 0 := by
    rw [List.cons_append, Lib.index]
    have : (o :: old).isPrefixOf (o :: (old ++ t)) = true := by
      rw [List.isPrefixOf_iff_prefix]; exact ⟨t, by simp⟩
    rw [this]; rfl
  rw [Lib.replaceK, hi]
  simp
theorem replaceK_nil (o : UInt8) (old new : List UInt8) (k : Nat) : Lib.replaceK (o :: old) new k [] = [] := by
  cases k with
  | zero => rfl
  | succ k => rfl
theorem dots_back : ∀ (l : List UInt8) (k : Nat), l.length < k → (∀ x ∈ l, x ≠ 95) → Lib.replaceK [95, 100, 111, 116, 95] [46] k (dotL l) = l
  | [], k, hk, h => replaceK_nil _ _ _ _
  | c :: t, k, hk, h => by
    obtain ⟨k', rfl⟩ : ∃ k', k = k' + 1 := ⟨k - 1, by simp only [List.length_cons] at hk; omega⟩
    simp only [List.length_cons] at hk
    unfold dotL
    by_cases hc : c = 46
    · rw [if_pos hc, replaceK_here, dots_back t k' (by omega) (fun x hx => h x (List.mem_cons_of_mem _ hx)), hc]
      rfl
    · rw [if_neg hc, List.singleton_append, replaceK_cons _ _ _ _ _ _ (h c (List.mem_cons_self ..)), dots_back t (k' + 1) (by omega) (fun x hx => h x (List.mem_cons_of_mem _ hx))]
theorem none_back (o : UInt8) (old new : List UInt8) : ∀ (l : List UInt8) (k : Nat), (∀ x ∈ l, x ≠ o) → Lib.replaceK (o :: old) new k l = l
  | l, 0, h => rfl
  | [], k + 1, h => replaceK_nil _ _ _ _
  | c :: t, k + 1, h => by
    rw [replaceK_cons _ _ _ _ _ _ (h c (List.mem_cons_self ..)), none_back o old new t (k + 1) (fun x hx => h x (List.mem_cons_of_mem _ hx))]
theorem dotL_len : ∀ l : List UInt8, (dotL l).length ≤ 5 * l.length
  | [] => Nat.le_refl _
  | c :: t => by
    have := dotL_len t
    unfold dotL
    split <;> simp <;> omega
theorem dotL_le : ∀ l : List UInt8, l.length ≤ (dotL l).length
  | [] => Nat.le_refl _
  | c :: t => by
    have := dotL_le t
    unfold dotL
    split <;> simp <;> omega
/-- Both replacements, one after the other. -/
theorem dots_twice (l : List UInt8) (h : ∀ x ∈ l, x ≠ 95) (k k' : Nat) (hk : (dotL l).length < k) :
    Lib.replaceK [95, 95] [95] k' (Lib.replaceK [95, 100, 111, 116, 95] [46] k (dotL l)) = l := by
  rw [dots_back l k (by have := dotL_le l; omega) h, none_back _ _ _ _ _ h]
/-- How long a replaced text can be. -/
theorem replaceK_len (old new : List UInt8) (hl : new.length ≤ old.length) : ∀ (k : Nat) (l : List UInt8), (Lib.replaceK old new k l).length ≤ l.length
  | 0, l => Nat.le_refl _
  | k + 1, l => by
    unfold Lib.replaceK
    split
    · exact Nat.le_refl _
    · rename_i hm
      have hge := Lib.index_ge l old
      have hne : Lib.index l old ≠ -1 := fun e => hm (by rw [e]; rfl)
      have hr := Lib.index_room l old (by omega)
      have := replaceK_len old new hl k (l.drop ((Lib.index l old).toNat + old.length))
      simp only [List.length_append, List.length_take]
      rw [List.length_drop] at this
      omega
end Go.Proofs.YtaajhionmdjhjaaDoor
