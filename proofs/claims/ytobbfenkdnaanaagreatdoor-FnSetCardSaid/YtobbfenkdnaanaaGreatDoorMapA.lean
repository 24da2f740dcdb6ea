/- Maps of labels: what a map's block reads as, said by a list of labels; the laws at the operations. -/
import Derived.Test.YtobbfenkdnaanaaGreatDoorLabB
import Derived.Maps.RangeWalk
import Derived.Maps.OwnSet
import Derived.Maps.OwnOps
import Derived.Maps.StringElems
import Derived.Sort.KeysCollected
set_option linter.unusedVariables false
set_option linter.unusedSimpArgs false
namespace Go.Proofs.YtobbfenkdnaanaaGreatDoor
open Go.RowKit Go.Maps Go.WideMaps

theorem law : Keyed Tryz.prog 118 := string_keyed Tryz.underlying118
theorem zeroV (w : World) : (zeroValue 119).run Tryz.prog w = .ok (.string ⟨#[]⟩) w := by kernel_rfl
theorem ba_ext {x y : ByteArray} (h : x.data.toList = y.data.toList) : x = y := ByteArray.ext (Array.ext' h)
theorem ba_toList (x : ByteArray) : x.toList = x.data.toList := ByteArray.toList_eq x
theorem beq_same (x : ByteArray) : (x.toList == x.toList) = true := by simp
theorem beq_ne {x y : ByteArray} (h : x ≠ y) : (x.toList == y.toList) = false := by
  rw [beq_eq_false_iff_ne, ba_toList, ba_toList]
  exact fun e => h (ba_ext e)

abbrev kl (x : ByteArray) : Lit := .string x.data.toList
theorem kl_inj {x y : ByteArray} (h : kl x = kl y) : x = y := ba_ext (by simpa [kl] using h)
theorem kl_key (x : ByteArray) : WideAt.IsKeyLit (kl x) := by trivial
noncomputable abbrev RE : Value → Option (DataW Unit × List MemPlace) := plainElem Tryz.prog 119
/-- The value at a name, of the first label of that name. -/
def getL (l : LL) (x : ByteArray) : Option ByteArray := (l.find? (fun p => p.1.toList == x.toList)).map Prod.snd
def Once (l : LL) : Prop := (l.map Prod.fst).Nodup

theorem getL_nil (x : ByteArray) : getL [] x = none := rfl
theorem getL_cons_same (x v : ByteArray) (l : LL) : getL ((x, v) :: l) x = some v := by simp [getL]
theorem getL_cons_other {x y : ByteArray} (v : ByteArray) (l : LL) (h : y ≠ x) : getL ((y, v) :: l) x = getL l x := by
  unfold getL
  rw [List.find?_cons_of_neg (by rw [beq_ne h]; simp)]
theorem getL_some : ∀ {l : LL} {x v : ByteArray}, getL l x = some v → (x, v) ∈ l
  | [], x, v, h => by cases h
  | (y, u) :: l, x, v, h => by
    by_cases hy : y = x
    · subst hy; rw [getL_cons_same] at h; cases h; exact List.mem_cons_self ..
    · rw [getL_cons_other u l hy] at h; exact List.mem_cons_of_mem _ (getL_some h)
theorem getL_of_mem : ∀ {l : LL} {x v : ByteArray}, Once l → (x, v) ∈ l → getL l x = some v
  | [], x, v, _, h => by cases h
  | (y, u) :: l, x, v, ho, h => by
    unfold Once at ho
    rw [List.map_cons, List.nodup_cons] at ho
    rcases List.mem_cons.1 h with e | h'
    · cases e; exact getL_cons_same _ _ _
    · have hy : y ≠ x := fun e => by subst e; exact ho.1 (List.mem_map.2 ⟨_, h', rfl⟩)
      rw [getL_cons_other u l hy]
      exact getL_of_mem ho.2 h'
theorem getL_none : ∀ {l : LL} {x : ByteArray}, getL l x = none ↔ x ∉ l.map Prod.fst
  | [], x => by simp [getL]
  | (y, u) :: l, x => by
    by_cases hy : y = x
    · subst hy; rw [getL_cons_same]; simp
    · rw [getL_cons_other u l hy, getL_none (l := l), List.map_cons, List.mem_cons]
      exact ⟨fun h h' => h'.elim (fun e => hy e.symm) h, fun h h' => h (.inr h')⟩
theorem getL_append (x : ByteArray) : ∀ (l l' : LL), getL (l ++ l') x = (getL l x).or (getL l' x)
  | [], l' => by simp [getL_nil]
  | (y, u) :: l, l' => by
    by_cases hy : y = x
    · subst hy; rw [List.cons_append, getL_cons_same, getL_cons_same]; rfl
    · rw [List.cons_append, getL_cons_other _ _ hy, getL_cons_other _ _ hy, getL_append x l l']
theorem once_snoc {l : LL} {x v : ByteArray} (h : Once l) (hx : getL l x = none) : Once (l ++ [(x, v)]) := by
  unfold Once
  rw [List.map_append, List.nodup_append]
  refine ⟨h, by simp, fun a ha b hb e => ?_⟩
  simp only [List.map_cons, List.map_nil, List.mem_singleton] at hb
  subst hb; subst e
  exact getL_none.1 hx ha
/-- Two lists of labels, each name once, with the same labels: one is the other in another order. -/
theorem perm_of_once {l d : LL} (hl : Once l) (hd : Once d) (h : ∀ p, p ∈ d ↔ p ∈ l) : d.Perm l := by
  have nd : ∀ {q : LL}, Once q → q.Nodup := fun hq => (List.pairwise_map.1 hq).imp fun h e => h (by rw [e])
  exact (List.perm_ext_iff_of_nodup (nd hd) (nd hl)).2 h

/-- The datum reads as the labels. -/
structure Reads (D : DataW Unit) (l : LL) : Prop where
  once : Once l
  tidy : Tidy D
  size : Maps.size D = l.length
  has : ∀ x, Maps.has D (kl x) = (getL l x).isSome
  at_ : ∀ x zd, D.atKey (kl x) zd = match getL l x with | some v => .lit (.string v.data.toList) | none => zd
theorem Reads.empty : Reads (.map []) [] := ⟨List.nodup_nil, tidy_empty, rfl, fun _ => rfl, fun _ _ => rfl⟩
theorem Reads.put {D : DataW Unit} {l : LL} (h : Reads D l) {x v : ByteArray} (hx : getL l x = none) : Reads (D.put (kl x) (.lit (.string v.data.toList))) (l ++ [(x, v)]) where
  once := once_snoc h.once hx
  tidy := h.tidy.put (kl_key x) _
  size := by rw [size_put h.tidy, h.has, hx, h.size, List.length_append]; rfl
  has := fun y => by
    rw [getL_append]
    by_cases e : y = x
    · subst e; rw [has_put_same h.tidy.isMap (kl_key y), hx, getL_cons_same]; rfl
    · rw [has_put_other (fun h => e (kl_inj h)), h.has, getL_cons_other _ _ (Ne.symm e), getL_nil]
      cases getL l y <;> rfl
  at_ := fun y zd => by
    rw [getL_append]
    by_cases e : y = x
    · subst e; rw [atKey_put_same h.tidy.isMap (kl_key y), hx, getL_cons_same]; rfl
    · rw [atKey_put_other (fun h => e (kl_inj h)), h.at_, getL_cons_other _ _ (Ne.symm e), getL_nil]
      cases getL l y <;> rfl

/-- Block b is a map of at most n entries that reads as the labels l. -/
def MapIs (w : World) (b n : Nat) (l : LL) : Prop := ∃ D, w.ownsMap Tryz.prog 118 RE b n D ∧ Reads D l
theorem MapIs.made (w : World) : MapIs (w.alloc (.map #[] 0)) w.heap.size 0 [] := ⟨_, World.ownsMap_made _ _ _ _, Reads.empty⟩
theorem MapIs.kept {w w' : World} {b n : Nat} {l : LL} {row : Option Nat} (h : MapIs w b n l) (hg : w.grownBy w' row) (hne : some b ≠ row) : MapIs w' b n l := by
  obtain ⟨D, ho, hr⟩ := h
  exact ⟨D, ho.kept hg hne, hr⟩
theorem MapIs.alloc {w : World} {b n : Nat} {l : LL} (h : MapIs w b n l) (o : Obj) : MapIs (w.alloc o) b n l := by
  obtain ⟨D, ho, hr⟩ := h
  exact ⟨D, ho.alloc o, hr⟩
theorem MapIs.lt {w : World} {b n : Nat} {l : LL} (h : MapIs w b n l) : b < w.heap.size := by
  obtain ⟨D, ho, hr⟩ := h
  exact ho.lt
theorem MapIs.once {w : World} {b n : Nat} {l : LL} (h : MapIs w b n l) : Once l := by
  obtain ⟨D, ho, hr⟩ := h
  exact hr.once
theorem MapIs.next {w w' : World} {b n : Nat} {l : LL} (h : MapIs w b n l) (hb : Below w.heap.size w w') : MapIs w' b n l := by
  obtain ⟨D, ⟨es, clock, hh, F, hs, hD⟩, hr⟩ := h
  have hlt := (Array.getElem?_eq_some_iff.1 hh).1
  exact ⟨D, ⟨es, clock, (hb.block b hlt).trans hh, F, hs, hD⟩, hr⟩
theorem MapIs.mono {w : World} {b n n' : Nat} {l : LL} (h : MapIs w b n l) (hn : n ≤ n') : MapIs w b n' l := by
  obtain ⟨D, ho, hr⟩ := h
  exact ⟨D, ho.mono hn, hr⟩
theorem MapIs.swap {w : World} {b n : Nat} {l l' : LL} (h : MapIs w b n l) (hp : l'.Perm l) : MapIs w b n l' := by
  obtain ⟨D, ho, hr⟩ := h
  have ho' : Once l' := (List.Perm.nodup_iff (hp.map _)).2 hr.once
  have hg : ∀ x, getL l' x = getL l x := fun x => by
    cases e : getL l x with
    | none => exact getL_none.2 fun hx => getL_none.1 e ((hp.map _).mem_iff.1 hx)
    | some v => exact getL_of_mem ho' (hp.mem_iff.2 (getL_some e))
  exact ⟨D, ho, ho', hr.tidy, by rw [hr.size, hp.length_eq], fun x => by rw [hg, hr.has], fun x zd => by rw [hg, hr.at_]⟩

section
variable (w : World) {ops : Array Oper} {rest : List Oper} {o : Oper} {a : Act} {Q : Exit → Act → World → Prop}

/-- 'm[x] = v' at a name that is new. -/
theorem wpList_store_label (hg : o.guard = none) (m x v : Operand) (t : TypeId) (hop : o.op = Op.mapUpdate t m x v) (ht : Tryz.prog.underlying t = some (.map 118 119)) (b n : Nat) (l : LL)
    (hm : a.eval m = .map (some b)) (hown : MapIs w b n l) (hn : n < maxLen) (xs vs : ByteArray) (hx : a.eval x = .string xs) (hv : a.eval v = .string vs) (hxl : xs.size ≤ maxLen) (hvl : vs.size ≤ maxLen) (hnew : getL l xs = none)
    (hK : ∀ w', MapIs w' b (n + 1) (l ++ [(xs, vs)]) → w.grownBy w' (some b) → wpList Tryz.prog ops Q rest (a.put o.dst undef) w') :
    wpList Tryz.prog ops Q (o :: rest) a w := by
  obtain ⟨D, ho, hr⟩ := hown
  exact wpList_mapUpdate_own w hg m x v t hop 118 119 law ht RE b n D hm ho hn _ _ (kl xs) hx hv (keyOf_string_mk Tryz.underlying118 hxl) (.lit (.string vs.data.toList)) [] (plainElem_string Tryz.underlying119 hvl)
    (fun w' h1 h2 => hK w' ⟨_, h1, hr.put hnew⟩ h2)

/-- 'v, ok := m[x]'. -/
theorem wpList_look_label (hg : o.guard = none) (m x : Operand) (t : TypeId) (hop : o.op = Op.lookup t m x true) (ht : Tryz.prog.underlying t = some (.map 118 119)) (b n : Nat) (l : LL)
    (hm : a.eval m = .map (some b)) (hown : MapIs w b n l) (xs : ByteArray) (hx : a.eval x = .string xs) (hxl : xs.size ≤ maxLen)
    (hK : wpList Tryz.prog ops Q rest (a.put o.dst (.tuple #[.string ((getL l xs).getD ⟨#[]⟩), .bool (getL l xs).isSome])) w) :
    wpList Tryz.prog ops Q (o :: rest) a w := by
  obtain ⟨D, ho, hr⟩ := hown
  refine wpList_lookup_own_ok w hg m x t hop 118 119 law ht RE (zeroV w) (.lit (.string [])) [] (plainElem_string Tryz.underlying119 (s := ⟨#[]⟩) (by unfold maxLen; decide)) b n D hm ho _ (kl xs) hx (keyOf_string_mk Tryz.underlying118 hxl) (fun v ps hv => ?_)
  obtain ⟨s, rfl, hs, _⟩ := plainElem_string_inv Tryz.underlying119 hv
  have h1 := congrArg Prod.fst hs
  simp only [hr.at_] at h1
  have e : s = (getL l xs).getD ⟨#[]⟩ := by
    cases hgl : getL l xs with
    | none => rw [hgl] at h1; exact ba_ext (by simpa using h1.symm)
    | some u => rw [hgl] at h1; exact ba_ext (by simpa using h1.symm)
  rw [e, hr.has]
  exact hK

/-- 'm[x]'. -/
theorem wpList_get_label (hg : o.guard = none) (m x : Operand) (t : TypeId) (hop : o.op = Op.lookup t m x false) (ht : Tryz.prog.underlying t = some (.map 118 119)) (b n : Nat) (l : LL)
    (hm : a.eval m = .map (some b)) (hown : MapIs w b n l) (xs : ByteArray) (hx : a.eval x = .string xs) (hxl : xs.size ≤ maxLen)
    (hK : wpList Tryz.prog ops Q rest (a.put o.dst (.string ((getL l xs).getD ⟨#[]⟩))) w) :
    wpList Tryz.prog ops Q (o :: rest) a w := by
  obtain ⟨D, ho, hr⟩ := hown
  refine wpList_plain hg fun K' hK' => ?_
  obtain ⟨v, ps, hrun, hv⟩ := ho.lookup law ht (zeroV w) (zd := .lit (.string [])) (zp := []) (plainElem_string Tryz.underlying119 (s := ⟨#[]⟩) (by unfold maxLen; decide)) (keyOf_string_mk Tryz.underlying118 hxl)
  obtain ⟨s, rfl, hs, _⟩ := plainElem_string_inv Tryz.underlying119 hv
  have h1 := congrArg Prod.fst hs
  simp only [hr.at_] at h1
  have e : s = (getL l xs).getD ⟨#[]⟩ := by
    cases hgl : getL l xs with
    | none => rw [hgl] at h1; exact ba_ext (by simpa using h1.symm)
    | some u => rw [hgl] at h1; exact ba_ext (by simpa using h1.symm)
  subst e
  unfold Oper.wp
  simp [execOp, hop, hm, hx, hrun, Result.andThen]
  exact hK' _ _ hK

/-- 'len(m)'. -/
theorem wpList_len_label (hg : o.guard = none) (m : Operand) (t : TypeId) (hop : o.op = Op.call { callee := Callee.builtin Builtin.len, args := #[m], argTypes := #[t] }) (ht : Tryz.prog.underlying t = some (.map 118 119)) (b n : Nat) (l : LL)
    (hm : a.eval m = .map (some b)) (hown : MapIs w b n l)
    (hK : wpList Tryz.prog ops Q rest (a.put o.dst (.int .i64 l.length)) w) :
    wpList Tryz.prog ops Q (o :: rest) a w := by
  obtain ⟨D, ho, hr⟩ := hown
  refine wpList_len_own w hg m t hop 118 119 ht RE b n D hm ho ?_
  rw [hr.size]
  exact hK

/-- A range over the labels' map under way: 'done' have come. -/
def RangeIs (w : World) (b r n : Nat) (l d : LL) (cnt : Nat) : Prop :=
  ∃ D left, w.ranges Tryz.prog 118 RE b r n D left cnt ∧ Reads D l ∧ Once d ∧ (∀ p ∈ d, p ∈ l) ∧ (∀ x, left (kl x) = ((getL l x).isSome && (getL d x).isNone)) ∧ d.length + cnt ≤ l.length
theorem RangeIs.map {w : World} {b r n : Nat} {l d : LL} {cnt : Nat} (h : RangeIs w b r n l d cnt) : MapIs w b n l := by
  obtain ⟨D, left, hrg, hr, _⟩ := h
  exact ⟨D, hrg.owns, hr⟩
theorem RangeIs.kept {w w' : World} {b r n : Nat} {l d : LL} {cnt : Nat} {row : Option Nat} (h : RangeIs w b r n l d cnt) (hg : w.grownBy w' row) (hb' : some b ≠ row) (hr' : some r ≠ row) : RangeIs w' b r n l d cnt := by
  obtain ⟨D, left, hrg, h⟩ := h
  exact ⟨D, left, hrg.kept hg hb' hr', h⟩
theorem RangeIs.alloc {w : World} {b r n : Nat} {l d : LL} {cnt : Nat} (h : RangeIs w b r n l d cnt) (o : Obj) : RangeIs (w.alloc o) b r n l d cnt := by
  obtain ⟨D, left, hrg, h⟩ := h
  exact ⟨D, left, hrg.alloc o, h⟩
theorem RangeIs.ne {w : World} {b r n : Nat} {l d : LL} {cnt : Nat} (h : RangeIs w b r n l d cnt) : r ≠ b := by
  obtain ⟨D, left, hrg, h⟩ := h
  exact hrg.ne
theorem RangeIs.lt {w : World} {b r n : Nat} {l d : LL} {cnt : Nat} (h : RangeIs w b r n l d cnt) : r < w.heap.size := by
  obtain ⟨D, left, hrg, h⟩ := h
  exact hrg.lt
theorem RangeIs.count {w : World} {b r n : Nat} {l d : LL} {cnt : Nat} (h : RangeIs w b r n l d cnt) : d.length + cnt ≤ l.length := by
  obtain ⟨D, left, hrg, h⟩ := h
  exact h.2.2.2.2
theorem RangeIs.once {w : World} {b r n : Nat} {l d : LL} {cnt : Nat} (h : RangeIs w b r n l d cnt) : Once d := by
  obtain ⟨D, left, hrg, h⟩ := h
  exact h.2.1
theorem RangeIs.next {w w' : World} {b r n : Nat} {l d : LL} {cnt : Nat} (h : RangeIs w b r n l d cnt) (hb : Below w.heap.size w w') : RangeIs w' b r n l d cnt := by
  obtain ⟨D, left, ⟨es, clock, since, seen, c0, h1, h2, h3, h4, h5, h6⟩, h⟩ := h
  exact ⟨D, left, ⟨es, clock, since, seen, c0, (hb.block b (Array.getElem?_eq_some_iff.1 h1).1).trans h1, h2, h3, h4, (hb.block r (Array.getElem?_eq_some_iff.1 h5).1).trans h5, h6⟩, h⟩

/-- 'range m'. -/
theorem wpList_range_label (hg : o.guard = none) (m : Operand) (t : TypeId) (hop : o.op = Op.range t m) (ht : Tryz.prog.underlying t = some (.map 118 119)) (b n : Nat) (l : LL)
    (hm : a.eval m = .map (some b)) (hown : MapIs w b n l)
    (hK : ∀ w', RangeIs w' b w.heap.size n l [] l.length → w.grownBy w' none → w'.heap.size = w.heap.size + 1 → wpList Tryz.prog ops Q rest (a.put o.dst (.pointer (some ⟨w.heap.size, 0, none⟩))) w') :
    wpList Tryz.prog ops Q (o :: rest) a w := by
  obtain ⟨D, ho, hr⟩ := hown
  refine wpList_range_own w hg m t hop 118 119 law ht RE b n D hm ho (fun w' h1 h2 h3 => hK w' ?_ h2 h3)
  rw [hr.size] at h1
  exact ⟨D, _, h1, hr, List.nodup_nil, (fun p hp => by cases hp), (fun x => by rw [hr.has, getL_nil]; simp), by simp⟩

/-- THE STEP: nothing is left, and all have come; or one more has come. -/
theorem wpList_next_label (hg : o.guard = none) (it : Operand) (hop : o.op = Op.next it false) (b r n : Nat) (l d : LL) (cnt : Nat)
    (hit : a.eval it = .pointer (some ⟨r, 0, none⟩)) (h : RangeIs w b r n l d cnt)
    (hDone : d.Perm l → wpList Tryz.prog ops Q rest (a.put o.dst (.tuple #[.bool false])) w)
    (hMore : ∀ (x v : ByteArray) (w' : World) (cnt' : Nat), getL l x = some v → getL d x = none → x.size ≤ maxLen → RangeIs w' b r n l (d ++ [(x, v)]) cnt' → cnt' < cnt →
      w.grownBy w' (some r) → w'.heap.size = w.heap.size → (Instr.entry (.pointer (some ⟨r, 0, none⟩))).run Tryz.prog w' = .ok (.tuple #[.string x, .string v]) w' → wpList Tryz.prog ops Q rest (a.put o.dst (.tuple #[.bool true, .string x, .string v])) w') :
    wpList Tryz.prog ops Q (o :: rest) a w := by
  obtain ⟨D, left, hrg, hr, hod, hsub, hleft, hcnt⟩ := h
  have invK : ∀ key k', keyOf Tryz.prog 118 key = some k' → ∃ x : ByteArray, key = Value.string x := fun key k' hk => by
    obtain ⟨x, rfl, _⟩ := Maps.keyOf_str Tryz.underlying118 hk
    exact ⟨_, rfl⟩
  refine wpList_next_ranges w hg it hop 118 law RE Value.string Value.string invK (fun v y hv => by obtain ⟨c, rfl, _⟩ := plainElem_string_inv Tryz.underlying119 hv; exact ⟨c, rfl⟩) b r n D left cnt hit hrg (fun _ hl0 => hDone ?_)
    (fun x v k' y w' cnt' hkey hlk hv hat hrg' hlt hgr hsz hen => ?_)
  · refine perm_of_once hr.once hod fun p => ⟨hsub p, fun hp => ?_⟩
    obtain ⟨x, v⟩ := p
    have hgl := getL_of_mem hr.once hp
    have h0 := hl0 (kl x)
    rw [hleft, hgl] at h0
    cases hgd : getL d x with
    | none => rw [hgd] at h0; simp at h0
    | some u =>
      have := getL_of_mem hr.once (hsub _ (getL_some hgd))
      rw [hgl] at this
      cases this
      exact getL_some hgd
  · have hxl : x.size ≤ maxLen := by
      obtain ⟨x', ex, _, hl'⟩ := Maps.keyOf_str Tryz.underlying118 hkey
      simp only [encStr] at ex
      cases ex
      show x'.toArray.size ≤ maxLen
      simpa using hl'
    have hk' : k' = kl x := by
      rw [keyOf_string_mk Tryz.underlying118 hxl] at hkey
      exact (Option.some.inj hkey).symm
    subst hk'
    obtain ⟨v', ev, rfl, _⟩ := plainElem_string_inv Tryz.underlying119 hv
    cases ev
    rw [hleft] at hlk
    have h1 : getL l x = some v := by
      have h2 := hat (.lit (.bool true))
      rw [hr.at_] at h2
      cases hgl : getL l x with
      | none => rw [hgl] at hlk; simp at hlk
      | some u =>
        rw [hgl] at h2
        have : u = v := ba_ext (by simpa using h2)
        rw [this]
    have h3 : getL d x = none := by
      rw [h1] at hlk
      cases hgd : getL d x with
      | none => rfl
      | some u => rw [hgd] at hlk; simp at hlk
    refine hMore x v w' cnt' h1 h3 hxl ⟨D, _, hrg', hr, once_snoc hod h3, fun p hp => ?_, fun z => ?_, by rw [List.length_append, List.length_singleton]; omega⟩ hlt hgr hsz hen
    · rcases List.mem_append.1 hp with hp | hp
      · exact hsub p hp
      · simp only [List.mem_singleton] at hp
        subst hp
        exact getL_some h1
    · show (left (kl z) && !(kl z).sameKey (kl x)) = _
      rw [hleft, getL_append]
      by_cases e : z = x
      · subst e
        rw [getL_cons_same, h3, WideAt.sameKey_self (kl_key z), h1]
        rfl
      · rw [getL_cons_other _ _ (Ne.symm e), getL_nil, sameKey_ne (fun h => e (kl_inj h))]
        cases getL l z <;> cases getL d z <;> rfl
end
end Go.Proofs.YtobbfenkdnaanaaGreatDoor
