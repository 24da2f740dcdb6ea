/- Plain facts on sorting a row of different numbers (at most 20 of them) as Go's library does it: what the partition, the pivot's choice and the recursion hand on. -/
import Derived.Sort.Statements
import Derived.Sort.Lot0
import Derived.Sort.LotA
set_option linter.unusedVariables false
set_option linter.unusedSimpArgs false
namespace Go.Proofs.YtobbfenkdnaanaaGreatDoor
open Go.Sort

/-- The numbers at the places from a on, ahead of b, are different. -/
def Nod (a b : Nat) (d : Array Int) : Prop := ∀ i j, a ≤ i → i < b → a ≤ j → j < b → i ≠ j → d[i]! ≠ d[j]!

theorem nod_iff {a b : Nat} {d : Array Int} (hb : b ≤ d.size) : Nod a b d ↔ (d.extract a b).toList.Nodup := by
  rw [extract_toList d a b hb, List.nodup_iff_pairwise_ne, List.pairwise_map]
  constructor
  · intro h
    rw [List.pairwise_iff_getElem]
    intro i j hi hj hij
    simp only [List.length_range'] at hi hj
    simp only [List.getElem_range', Nat.one_mul]
    exact h _ _ (by omega) (by omega) (by omega) (by omega) (by omega)
  · intro h i j hi hib hj hjb hne
    rw [List.pairwise_iff_getElem] at h
    rcases Nat.lt_or_gt_of_ne hne with hlt | hlt
    · have := h (i - a) (j - a) (by simp; omega) (by simp; omega) (by omega)
      simp only [List.getElem_range', Nat.one_mul, show a + (i - a) = i by omega, show a + (j - a) = j by omega] at this
      exact this
    · have := h (j - a) (i - a) (by simp; omega) (by simp; omega) (by omega)
      simp only [List.getElem_range', Nat.one_mul, show a + (i - a) = i by omega, show a + (j - a) = j by omega] at this
      exact this.symm

theorem nod_perm {a b : Nat} {d d' : Array Int} (hb : b ≤ d.size) (h : PermIn a b d d') (hn : Nod a b d) : Nod a b d' := by
  rw [nod_iff (by rw [h.1]; exact hb)]
  rw [nod_iff hb] at hn
  exact h.2.2.nodup_iff.2 hn

theorem nod_sub {a b a' b' : Nat} {d : Array Int} (h : Nod a b d) (ha : a ≤ a') (hb : b' ≤ b) : Nod a' b' d :=
  fun i j h1 h2 h3 h4 h5 => h i j (by omega) (by omega) (by omega) (by omega) h5

/-- The median of three different numbers lies between the two others. -/
theorem median_mid (d : Array Int) (a b c s : Nat) (h1 : d[a]! ≠ d[b]!) (h2 : d[b]! ≠ d[c]!) (h3 : d[a]! ≠ d[c]!) :
    ((median ltInt d a b c s).1 = a ∨ (median ltInt d a b c s).1 = b ∨ (median ltInt d a b c s).1 = c) ∧
    (∃ x, (x = a ∨ x = b ∨ x = c) ∧ d[x]! < d[(median ltInt d a b c s).1]!) ∧ (∃ y, (y = a ∨ y = b ∨ y = c) ∧ d[(median ltInt d a b c s).1]! < d[y]!) := by
  have key : ∀ m, m = (median ltInt d a b c s).1 → (m = a ∨ m = b ∨ m = c) ∧ (d[a]! < d[m]! ∨ d[b]! < d[m]! ∨ d[c]! < d[m]!) ∧ (d[m]! < d[a]! ∨ d[m]! < d[b]! ∨ d[m]! < d[c]!) := by
    intro m hm
    unfold median order2 ltInt at hm
    by_cases e1 : d[b]! < d[a]! <;> by_cases e2 : d[c]! < d[b]! <;> by_cases e3 : d[c]! < d[a]! <;> by_cases e4 : d[a]! < d[b]! <;>
      simp only [e1, e2, e3, e4, decide_true, decide_false, if_true, if_false, Bool.false_eq_true] at hm <;> subst hm <;>
      refine ⟨?_, ?_, ?_⟩ <;> first | exact .inl rfl | exact .inr (.inl rfl) | exact .inr (.inr rfl) | omega
  obtain ⟨k1, k2, k3⟩ := key _ rfl
  refine ⟨k1, ?_, ?_⟩
  · rcases k2 with h | h | h
    · exact ⟨a, .inl rfl, h⟩
    · exact ⟨b, .inr (.inl rfl), h⟩
    · exact ⟨c, .inr (.inr rfl), h⟩
  · rcases k3 with h | h | h
    · exact ⟨a, .inl rfl, h⟩
    · exact ⟨b, .inr (.inl rfl), h⟩
    · exact ⟨c, .inr (.inr rfl), h⟩

/-- What holds in the middle of a partition: i comes from below, j from above. -/
structure Part (a b : Nat) (p : Int) (d : Array Int) (i j : Nat) (dk : Array Int) : Prop where
  perm : PermIn a b d dk
  piv : dk[a]! = p
  lo : a + 1 ≤ i
  meet : i ≤ j + 1
  hi : j < b
  less : ∀ k, a < k → k < i → dk[k]! < p
  more : ∀ k, j < k → k < b → p ≤ dk[k]!

theorem part_start {a b q : Nat} {d : Array Int} (hb : b ≤ d.size) (ha : a ≤ q) (hq : q < b) : Part a b d[q]! d (a + 1) (b - 1) (swp d a q) where
  perm := swp_permIn d a b a q (Nat.le_refl _) (by omega) ha hq hb
  piv := by
    by_cases h : a = q
    · subst h
      rw [swp_right d a a (by omega)]
    · exact swp_left d a q (by omega) h
  lo := Nat.le_refl _
  meet := by omega
  hi := by omega
  less := fun k h1 h2 => by omega
  more := fun k h1 h2 => by omega

theorem Part.up {a b i j : Nat} {p : Int} {d dk : Array Int} (h : Part a b p d i j dk) (hij : i ≤ j) (hl : dk[i]! < p) : Part a b p d (i + 1) j dk where
  perm := h.perm
  piv := h.piv
  lo := by have := h.lo; omega
  meet := by omega
  hi := h.hi
  less := fun k h1 h2 => by
    by_cases e : k = i
    · subst e; exact hl
    · exact h.less k h1 (by omega)
  more := h.more

theorem Part.down {a b i j : Nat} {p : Int} {d dk : Array Int} (h : Part a b p d i j dk) (hij : i ≤ j) (hl : p ≤ dk[j]!) : Part a b p d i (j - 1) dk where
  perm := h.perm
  piv := h.piv
  lo := h.lo
  meet := by omega
  hi := by have := h.hi; omega
  less := h.less
  more := fun k h1 h2 => by
    by_cases e : k = j
    · subst e; exact hl
    · exact h.more k (by omega) h2

theorem Part.swap {a b i j : Nat} {p : Int} {d dk : Array Int} (hb : b ≤ d.size) (h : Part a b p d i j dk) (hij : i ≤ j) (h1 : p ≤ dk[i]!) (h2 : dk[j]! < p) : i < j ∧ Part a b p d (i + 1) (j - 1) (swp dk i j) := by
  have hne : i ≠ j := fun e => by subst e; omega
  have hlo := h.lo
  have hhi := h.hi
  have hs := h.perm.1
  refine ⟨by omega, ?_⟩
  constructor
  · exact permIn_trans _ _ _ _ _ h.perm (swp_permIn dk a b i j (by omega) (by omega) (by omega) (by omega) (by omega))
  · rw [swp_other dk i j a (by omega) (by omega)]; exact h.piv
  · omega
  · omega
  · omega
  · intro k k1 k2
    by_cases e : k = i
    · subst e; rw [swp_left dk k j (by omega) hne]; exact h2
    · rw [swp_other dk i j k e (by omega)]; exact h.less k k1 (by omega)
  · intro k k1 k2
    by_cases e : k = j
    · subst e; rw [swp_right dk i k (by omega)]; exact h1
    · rw [swp_other dk i j k (by omega) e]; exact h.more k (by omega) k2

/-- What a partition hands on: at m stands the pivot, ahead of it what is less. -/
structure Parted (a b : Nat) (p : Int) (d : Array Int) (m : Nat) (d' : Array Int) : Prop where
  perm : PermIn a b d d'
  lo : a ≤ m
  hi : m < b
  piv : d'[m]! = p
  less : ∀ k, a ≤ k → k < m → d'[k]! < p
  more : ∀ k, m < k → k < b → p ≤ d'[k]!

theorem Part.done {a b i j : Nat} {p : Int} {d dk : Array Int} (hb : b ≤ d.size) (h : Part a b p d i j dk) (hij : j < i) : Parted a b p d j (swp dk j a) := by
  have hlo := h.lo
  have hhi := h.hi
  have hme := h.meet
  have hs := h.perm.1
  constructor
  · exact permIn_trans _ _ _ _ _ h.perm (swp_permIn dk a b j a (by omega) (by omega) (by omega) (by omega) (by omega))
  · omega
  · omega
  · by_cases e : j = a
    · subst e; rw [swp_right dk j j (by omega)]; exact h.piv
    · rw [swp_left dk j a (by omega) e]; exact h.piv
  · intro k k1 k2
    by_cases e : k = a
    · subst e; rw [swp_right dk j k (by omega)]; exact h.less j (by omega) (by omega)
    · rw [swp_other dk j a k (by omega) e]; exact h.less k (by omega) (by omega)
  · intro k k1 k2
    rw [swp_other dk j a k (by omega) (by omega)]; exact h.more k k1 k2

/-- A number of the row that is less than the pivot, and one that is greater: the pivot's place is neither the first nor the last. -/
theorem Parted.inner {a b m : Nat} {p : Int} {d d' : Array Int} (hb : b ≤ d.size) (h : Parted a b p d m d') (x y : Nat) (hx : a ≤ x ∧ x < b ∧ d[x]! < p) (hy : a ≤ y ∧ y < b ∧ p < d[y]!) : a < m ∧ m + 1 < b := by
  have hs := h.perm.1
  have hlo := h.lo
  have hhi := h.hi
  constructor
  · by_cases e : a < m
    · exact e
    · exfalso
      have em : m = a := by omega
      have := permIn_all d' d a b (fun z => p ≤ z) (by omega) ⟨by omega, fun i hi => (h.perm.2.1 i hi).symm, h.perm.2.2.symm⟩ (fun i h1 h2 => by
        by_cases e2 : i = m
        · subst e2; rw [h.piv]; exact Int.le_refl _
        · exact h.more i (by omega) h2) x hx.1 hx.2.1
      omega
  · by_cases e : m + 1 < b
    · exact e
    · exfalso
      have em : m + 1 = b := by omega
      have := permIn_all d' d a b (fun z => z ≤ p) (by omega) ⟨by omega, fun i hi => (h.perm.2.1 i hi).symm, h.perm.2.2.symm⟩ (fun i h1 h2 => by
        by_cases e2 : i = m
        · subst e2; rw [h.piv]; exact Int.le_refl _
        · exact Int.le_of_lt (h.less i (by omega) (by omega))) y hy.1 hy.2.1
      omega

/-- The row's part from a to b is more than what stands ahead of it. -/
def Above (a b : Nat) (d : Array Int) : Prop := a = 0 ∨ ∀ i, a ≤ i → i < b → d[a - 1]! < d[i]!

theorem above_perm {a b : Nat} {d d' : Array Int} (hb : b ≤ d.size) (h : PermIn a b d d') (hA : Above a b d) : Above a b d' := by
  rcases hA with h0 | h0
  · exact .inl h0
  · by_cases e : a = 0
    · exact .inl e
    · refine .inr fun i h1 h2 => ?_
      rw [h.2.1 (a - 1) (.inl (by omega))]
      exact permIn_all d d' a b (fun z => d[a - 1]! < z) hb h h0 i h1 h2

/-- What is still to be done where the part from a to b is to be sorted, of a whole from a0 to b0. -/
def Rest (a0 b0 : Nat) (d0 : Array Int) (a b : Nat) (dk : Array Int) : Prop :=
  a0 ≤ a ∧ a ≤ b ∧ b ≤ b0 ∧ dk.size = d0.size ∧ ∀ e, PermIn a b dk e → SortedIn ltInt a b e → PermIn a0 b0 d0 e ∧ SortedIn ltInt a0 b0 e

theorem rest_start (a b : Nat) (d : Array Int) (h : a ≤ b) : Rest a b d a b d := ⟨Nat.le_refl _, h, Nat.le_refl _, rfl, fun e h1 h2 => ⟨h1, h2⟩⟩

theorem rest_perm {a0 b0 a b : Nat} {d0 d d' : Array Int} (h : Rest a0 b0 d0 a b d) (hp : PermIn a b d d') : Rest a0 b0 d0 a b d' :=
  ⟨h.1, h.2.1, h.2.2.1, hp.1.trans h.2.2.2.1, fun e h1 h2 => h.2.2.2.2 e (permIn_trans _ _ _ _ _ hp h1) h2⟩

/-- The part ahead of the pivot is sorted: what is behind it is left. -/
theorem rest_left {a0 b0 a b m : Nat} {p : Int} {d0 d d' e : Array Int} (hb : b ≤ d.size) (h : Rest a0 b0 d0 a b d) (hp : Parted a b p d m d') (h1 : PermIn a m d' e) (h2 : SortedIn ltInt a m e) :
    Rest a0 b0 d0 (m + 1) b e := by
  have hlo := hp.lo
  have hhi := hp.hi
  have hs := hp.perm.1
  have hes := h1.1
  refine ⟨by have := h.1; omega, by omega, h.2.2.1, by rw [hes, hs]; exact h.2.2.2.1, fun f f1 f2 => ?_⟩
  have q1 : PermIn a b d' e := permIn_mono d' e a m a b (Nat.le_refl _) (by omega) (by omega) h1
  have q2 : PermIn a b e f := permIn_mono e f (m + 1) b a b (by omega) (Nat.le_refl _) (by omega) f1
  have lo' : ∀ i, a ≤ i → i < m → f[i]! < p := fun i i1 i2 => by
    rw [f1.2.1 i (.inl (by omega))]
    exact permIn_all d' e a m (fun z => z < p) (by omega) h1 (fun i h1 h2 => hp.less i h1 h2) i i1 i2
  have hi' : ∀ i, m < i → i < b → p ≤ f[i]! := fun i i1 i2 =>
    permIn_all e f (m + 1) b (fun z => p ≤ z) (by omega) f1 (fun k k1 k2 => by rw [h1.2.1 k (.inr (by omega))]; exact hp.more k (by omega) k2) i (by omega) i2
  have mid : f[m]! = p := by rw [f1.2.1 m (.inl (by omega)), h1.2.1 m (.inr (Nat.le_refl _)), hp.piv]
  refine h.2.2.2.2 f (permIn_trans _ _ _ _ _ hp.perm (permIn_trans _ _ _ _ _ q1 q2)) fun i j i1 ij jb => ?_
  have lt_ge : ∀ x y : Int, y ≤ x → ltInt x y = false := fun x y hxy => by simp [ltInt]; omega
  rcases Nat.lt_trichotomy j m with hj | hj | hj
  · rw [f1.2.1 i (.inl (by omega)), f1.2.1 j (.inl (by omega))]
    exact h2 i j i1 ij hj
  · subst hj
    exact lt_ge _ _ (by rw [mid]; exact Int.le_of_lt (lo' i i1 ij))
  · rcases Nat.lt_trichotomy i m with hi2 | hi2 | hi2
    · exact lt_ge _ _ (by have := lo' i i1 hi2; have := hi' j hj jb; omega)
    · subst hi2; exact lt_ge _ _ (by rw [mid]; exact hi' j hj jb)
    · exact f2 i j (by omega) ij jb

/-- The part behind the pivot is sorted: what is ahead of it is left. -/
theorem rest_right {a0 b0 a b m : Nat} {p : Int} {d0 d d' e : Array Int} (hb : b ≤ d.size) (h : Rest a0 b0 d0 a b d) (hp : Parted a b p d m d') (h1 : PermIn (m + 1) b d' e) (h2 : SortedIn ltInt (m + 1) b e) :
    Rest a0 b0 d0 a m e := by
  have hlo := hp.lo
  have hhi := hp.hi
  have hs := hp.perm.1
  have hes := h1.1
  refine ⟨h.1, hlo, by have := h.2.2.1; omega, by rw [hes, hs]; exact h.2.2.2.1, fun f f1 f2 => ?_⟩
  have q1 : PermIn a b d' e := permIn_mono d' e (m + 1) b a b (by omega) (Nat.le_refl _) (by omega) h1
  have q2 : PermIn a b e f := permIn_mono e f a m a b (Nat.le_refl _) (by omega) (by omega) f1
  have lo' : ∀ i, a ≤ i → i < m → f[i]! < p := fun i i1 i2 =>
    permIn_all e f a m (fun z => z < p) (by omega) f1 (fun k k1 k2 => by rw [h1.2.1 k (.inl (by omega))]; exact hp.less k k1 k2) i i1 i2
  have hi' : ∀ i, m < i → i < b → p ≤ f[i]! := fun i i1 i2 => by
    rw [f1.2.1 i (.inr (by omega))]
    exact permIn_all d' e (m + 1) b (fun z => p ≤ z) (by omega) h1 (fun k k1 k2 => hp.more k (by omega) k2) i (by omega) i2
  have mid : f[m]! = p := by rw [f1.2.1 m (.inr (Nat.le_refl _)), h1.2.1 m (.inl (by omega)), hp.piv]
  refine h.2.2.2.2 f (permIn_trans _ _ _ _ _ hp.perm (permIn_trans _ _ _ _ _ q1 q2)) fun i j i1 ij jb => ?_
  have lt_ge : ∀ x y : Int, y ≤ x → ltInt x y = false := fun x y hxy => by simp [ltInt]; omega
  rcases Nat.lt_trichotomy j m with hj | hj | hj
  · exact f2 i j i1 ij hj
  · subst hj
    exact lt_ge _ _ (by rw [mid]; exact Int.le_of_lt (lo' i i1 ij))
  · rcases Nat.lt_trichotomy i m with hi2 | hi2 | hi2
    · exact lt_ge _ _ (by have := lo' i i1 hi2; have := hi' j hj jb; omega)
    · subst hi2; exact lt_ge _ _ (by rw [mid]; exact hi' j hj jb)
    · rw [f1.2.1 i (.inr (by omega)), f1.2.1 j (.inr (by omega))]
      exact h2 i j (by omega) ij jb

theorem rest_done {a0 b0 a b : Nat} {d0 d e : Array Int} (h : Rest a0 b0 d0 a b d) (h1 : PermIn a b d e) (h2 : SortedIn ltInt a b e) : PermIn a0 b0 d0 e ∧ SortedIn ltInt a0 b0 e := h.2.2.2.2 e h1 h2

/-- Behind the pivot all is above it, for the numbers are different. -/
theorem above_right {a b m : Nat} {p : Int} {d d' e : Array Int} (hb : b ≤ d.size) (hn : Nod a b d) (hp : Parted a b p d m d') (h1 : PermIn a m d' e) : Above (m + 1) b e := by
  have hn' := nod_perm hb hp.perm hn
  refine .inr fun i i1 i2 => ?_
  have hlo := hp.lo
  have hhi := hp.hi
  rw [Nat.add_sub_cancel, h1.2.1 m (.inr (Nat.le_refl _)), h1.2.1 i (.inr (by omega)), hp.piv]
  have := hp.more i (by omega) i2
  have := hn' i m (by omega) i2 hlo hhi (by omega)
  rw [hp.piv] at this
  omega
theorem above_left {a b m : Nat} {p : Int} {d d' e : Array Int} (hb : b ≤ d.size) (hA : Above a b d) (hp : Parted a b p d m d') (h1 : PermIn (m + 1) b d' e) : Above a m e := by
  have hs := hp.perm.1
  have hlo := hp.lo
  have hhi := hp.hi
  have hA' := above_perm hb hp.perm hA
  rcases hA' with h0 | h0
  · exact .inl h0
  · by_cases e0 : a = 0
    · exact .inl e0
    · refine .inr fun i i1 i2 => ?_
      rw [h1.2.1 i (.inl (by omega)), h1.2.1 (a - 1) (.inl (by omega))]
      exact h0 i i1 (by omega)

/-- A row in which no number is less than the one ahead of it is sorted. -/
theorem sorted_steps {a b : Nat} {d : Array Int} (h : ∀ k, a < k → k < b → d[k - 1]! ≤ d[k]!) : SortedIn ltInt a b d := by
  have up : ∀ n i, a ≤ i → i + n < b → d[i]! ≤ d[i + n]! := by
    intro n
    induction n with
    | zero => intro i _ _; exact Int.le_refl _
    | succ n ih =>
      intro i h1 h2
      have := ih i h1 (by omega)
      have h3 := h (i + n + 1) (by omega) (by omega)
      rw [Nat.add_sub_cancel] at h3
      show d[i]! ≤ d[i + n + 1]!
      omega
  intro i j i1 ij jb
  have := up (j - i) i i1 (by omega)
  rw [show i + (j - i) = j by omega] at this
  simp [ltInt]; omega
end Go.Proofs.YtobbfenkdnaanaaGreatDoor
