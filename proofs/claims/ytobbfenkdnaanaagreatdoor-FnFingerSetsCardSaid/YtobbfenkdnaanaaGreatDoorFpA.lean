/- Sets of fingerprints: what a map's block reads as, said by a list of different numbers; the laws at the operations. -/
import Derived.Test.YtobbfenkdnaanaaGreatDoorProg
import Derived.Test.YtobbfenkdnaanaaGreatDoorWords
import Derived.Maps.RangeWalk
import Derived.Maps.OwnSet
import Derived.Maps.OwnOps
import Derived.WalkKit
import Derived.RowKit
set_option linter.unusedVariables false
set_option linter.unusedSimpArgs false
namespace Go.Proofs.YtobbfenkdnaanaaGreatDoor
open Go.RowKit Go.Maps Go.WideMaps

theorem lawU : Keyed Tryz.prog 79 := int_keyed Tryz.underlying79
theorem zeroU (w : World) : (zeroValue 112).run Tryz.prog w = .ok (.agg #[]) w := by kernel_rfl

/-- A number that 64 bits hold. -/
def In64 (x : Int) : Prop := 0 ≤ x ∧ x ≤ 18446744073709551615
abbrev ku (x : Int) : Lit := .int .u64 x
theorem ku_inj {x y : Int} (h : ku x = ku y) : x = y := by cases h; rfl
theorem ku_key (x : Int) : WideAt.IsKeyLit (ku x) := by trivial
theorem ku_of {x : Int} (h : In64 x) : keyOf Tryz.prog 79 (.int .u64 x) = some (ku x) := keyOf_int_mk Tryz.underlying79 (by
  obtain ⟨h1, h2⟩ := h
  have a1 : IntKind.u64.min = 0 := by decide
  have a2 : IntKind.u64.max = 18446744073709551615 := by decide
  simp [Lit.wf, a1, a2]
  omega)

/-- The numbers with one more, if it is new. -/
def insU (l : List Int) (x : Int) : List Int := if x ∈ l then l else l ++ [x]
theorem insU_mem (l : List Int) (x y : Int) : y ∈ insU l x ↔ y ∈ l ∨ y = x := by
  unfold insU
  split
  · rename_i h
    constructor
    · exact .inl
    · rintro (h1 | rfl)
      · exact h1
      · exact h
  · simp
theorem insU_nodup {l : List Int} (x : Int) (h : l.Nodup) : (insU l x).Nodup := by
  unfold insU
  split
  · exact h
  · rename_i hx
    rw [List.nodup_append]
    exact ⟨h, by simp, fun a ha b hb e => by simp only [List.mem_singleton] at hb; subst hb; subst e; exact hx ha⟩
theorem insU_len (l : List Int) (x : Int) : l.length ≤ (insU l x).length ∧ (insU l x).length ≤ l.length + 1 := by
  unfold insU; split <;> simp

/-- The datum reads as the set. -/
structure ReadsU (D : DataW Unit) (l : List Int) : Prop where
  once : l.Nodup
  wide : ∀ x ∈ l, In64 x
  tidy : Tidy D
  size : Maps.size D = l.length
  has : ∀ x, Maps.has D (ku x) = decide (x ∈ l)
theorem ReadsU.empty : ReadsU (.map []) [] := ⟨List.nodup_nil, (fun x h => by cases h), tidy_empty, rfl, fun _ => rfl⟩
theorem ReadsU.put {D : DataW Unit} {l : List Int} (h : ReadsU D l) {x : Int} (hx : In64 x) : ReadsU (D.put (ku x) (.agg [])) (insU l x) where
  once := insU_nodup x h.once
  wide := fun y hy => by
    rcases (insU_mem l x y).1 hy with h1 | rfl
    · exact h.wide y h1
    · exact hx
  tidy := h.tidy.put (ku_key x) _
  size := by
    rw [size_put h.tidy, h.has, h.size]
    unfold insU
    by_cases e : x ∈ l <;> simp [e]
  has := fun y => by
    by_cases e : y = x
    · subst e
      rw [has_put_same h.tidy.isMap (ku_key y)]
      exact (decide_eq_true ((insU_mem l y y).2 (.inr rfl))).symm
    · rw [has_put_other (fun h => e (ku_inj h)), h.has]
      exact decide_eq_decide.2 ⟨fun h1 => (insU_mem l x y).2 (.inl h1), fun h1 => ((insU_mem l x y).1 h1).resolve_right e⟩

/-- Block b is a set of at most n numbers that reads as l. -/
def SetIs (w : World) (b n : Nat) (l : List Int) : Prop := ∃ D, w.ownsMap Tryz.prog 79 (unitElem (H := Unit)) b n D ∧ ReadsU D l
theorem SetIs.made (w : World) : SetIs (w.alloc (.map #[] 0)) w.heap.size 0 [] := ⟨_, World.ownsMap_made _ _ _ _, ReadsU.empty⟩
theorem SetIs.kept {w w' : World} {b n : Nat} {l : List Int} {row : Option Nat} (h : SetIs w b n l) (hg : w.grownBy w' row) (hne : some b ≠ row) : SetIs w' b n l := by
  obtain ⟨D, ho, hr⟩ := h
  exact ⟨D, ho.kept hg hne, hr⟩
theorem SetIs.alloc {w : World} {b n : Nat} {l : List Int} (h : SetIs w b n l) (o : Obj) : SetIs (w.alloc o) b n l := by
  obtain ⟨D, ho, hr⟩ := h
  exact ⟨D, ho.alloc o, hr⟩
theorem SetIs.lt {w : World} {b n : Nat} {l : List Int} (h : SetIs w b n l) : b < w.heap.size := by
  obtain ⟨D, ho, hr⟩ := h
  exact ho.lt
theorem SetIs.once {w : World} {b n : Nat} {l : List Int} (h : SetIs w b n l) : l.Nodup := by
  obtain ⟨D, ho, hr⟩ := h
  exact hr.once
theorem SetIs.wide {w : World} {b n : Nat} {l : List Int} (h : SetIs w b n l) : ∀ x ∈ l, In64 x := by
  obtain ⟨D, ho, hr⟩ := h
  exact hr.wide
theorem SetIs.next {w w' : World} {b n : Nat} {l : List Int} (h : SetIs w b n l) (hb : Below w.heap.size w w') : SetIs w' b n l := by
  obtain ⟨D, ⟨es, clock, hh, F, hs, hD⟩, hr⟩ := h
  have hlt := (Array.getElem?_eq_some_iff.1 hh).1
  exact ⟨D, ⟨es, clock, (hb.block b hlt).trans hh, F, hs, hD⟩, hr⟩
theorem SetIs.mono {w : World} {b n n' : Nat} {l : List Int} (h : SetIs w b n l) (hn : n ≤ n') : SetIs w b n' l := by
  obtain ⟨D, ho, hr⟩ := h
  exact ⟨D, ho.mono hn, hr⟩

section
variable (w : World) {ops : Array Oper} {rest : List Oper} {o : Oper} {a : Act} {Q : Exit → Act → World → Prop}

/-- 'm[x] = struct{}{}'. -/
theorem wpList_store_num (hg : o.guard = none) (m x v : Operand) (hop : o.op = Op.mapUpdate 111 m x v) (b n : Nat) (l : List Int)
    (hm : a.eval m = .map (some b)) (hown : SetIs w b n l) (hn : n < maxLen) (xs : Int) (hx : a.eval x = .int .u64 xs) (hv : a.eval v = .agg #[]) (hxl : In64 xs)
    (hK : ∀ w', SetIs w' b (n + 1) (insU l xs) → w.grownBy w' (some b) → wpList Tryz.prog ops Q rest (a.put o.dst undef) w') :
    wpList Tryz.prog ops Q (o :: rest) a w := by
  obtain ⟨D, ho, hr⟩ := hown
  exact wpList_mapUpdate_own w hg m x v 111 hop 79 112 lawU Tryz.underlying111 unitElem b n D hm ho hn _ _ (ku xs) hx hv (ku_of hxl) (.agg []) [] unitElem_mk
    (fun w' h1 h2 => hK w' ⟨_, h1, hr.put hxl⟩ h2)

/-- '_, ok := m[x]'. -/
theorem wpList_look_num (hg : o.guard = none) (m x : Operand) (hop : o.op = Op.lookup 111 m x true) (b n : Nat) (l : List Int)
    (hm : a.eval m = .map (some b)) (hown : SetIs w b n l) (xs : Int) (hx : a.eval x = .int .u64 xs) (hxl : In64 xs)
    (hK : wpList Tryz.prog ops Q rest (a.put o.dst (.tuple #[.agg #[], .bool (decide (xs ∈ l))])) w) :
    wpList Tryz.prog ops Q (o :: rest) a w := by
  obtain ⟨D, ho, hr⟩ := hown
  refine wpList_lookup_own_unit w hg m x 111 hop 79 112 lawU Tryz.underlying111 (zeroU w) b n D hm ho _ (ku xs) hx (ku_of hxl) ?_
  rw [hr.has]
  exact hK

/-- 'len(m)'. -/
theorem wpList_len_num (hg : o.guard = none) (m : Operand) (hop : o.op = Op.call { callee := Callee.builtin Builtin.len, args := #[m], argTypes := #[111] }) (b n : Nat) (l : List Int)
    (hm : a.eval m = .map (some b)) (hown : SetIs w b n l)
    (hK : wpList Tryz.prog ops Q rest (a.put o.dst (.int .i64 l.length)) w) :
    wpList Tryz.prog ops Q (o :: rest) a w := by
  obtain ⟨D, ho, hr⟩ := hown
  refine wpList_len_own w hg m 111 hop 79 112 Tryz.underlying111 unitElem b n D hm ho ?_
  rw [hr.size]
  exact hK

/-- A range over a set under way: 'd' have come. -/
def RangeU (w : World) (b r n : Nat) (l d : List Int) (cnt : Nat) : Prop :=
  ∃ D left, w.ranges Tryz.prog 79 (unitElem (H := Unit)) b r n D left cnt ∧ ReadsU D l ∧ d.Nodup ∧ (∀ p ∈ d, p ∈ l) ∧ (∀ x, left (ku x) = (decide (x ∈ l) && !decide (x ∈ d))) ∧ d.length + cnt ≤ l.length
theorem RangeU.set {w : World} {b r n : Nat} {l d : List Int} {cnt : Nat} (h : RangeU w b r n l d cnt) : SetIs w b n l := by
  obtain ⟨D, left, hrg, hr, _⟩ := h
  exact ⟨D, hrg.owns, hr⟩
theorem RangeU.kept {w w' : World} {b r n : Nat} {l d : List Int} {cnt : Nat} {row : Option Nat} (h : RangeU w b r n l d cnt) (hg : w.grownBy w' row) (hb' : some b ≠ row) (hr' : some r ≠ row) : RangeU w' b r n l d cnt := by
  obtain ⟨D, left, hrg, h⟩ := h
  exact ⟨D, left, hrg.kept hg hb' hr', h⟩
theorem RangeU.alloc {w : World} {b r n : Nat} {l d : List Int} {cnt : Nat} (h : RangeU w b r n l d cnt) (o : Obj) : RangeU (w.alloc o) b r n l d cnt := by
  obtain ⟨D, left, hrg, h⟩ := h
  exact ⟨D, left, hrg.alloc o, h⟩
theorem RangeU.ne {w : World} {b r n : Nat} {l d : List Int} {cnt : Nat} (h : RangeU w b r n l d cnt) : r ≠ b := by
  obtain ⟨D, left, hrg, h⟩ := h
  exact hrg.ne
theorem RangeU.lt {w : World} {b r n : Nat} {l d : List Int} {cnt : Nat} (h : RangeU w b r n l d cnt) : r < w.heap.size := by
  obtain ⟨D, left, hrg, h⟩ := h
  exact hrg.lt
theorem RangeU.once {w : World} {b r n : Nat} {l d : List Int} {cnt : Nat} (h : RangeU w b r n l d cnt) : d.Nodup := by
  obtain ⟨D, left, hrg, h⟩ := h
  exact h.2.1
theorem RangeU.sub {w : World} {b r n : Nat} {l d : List Int} {cnt : Nat} (h : RangeU w b r n l d cnt) : ∀ p ∈ d, p ∈ l := by
  obtain ⟨D, left, hrg, h⟩ := h
  exact h.2.2.1
theorem RangeU.count {w : World} {b r n : Nat} {l d : List Int} {cnt : Nat} (h : RangeU w b r n l d cnt) : d.length + cnt ≤ l.length := by
  obtain ⟨D, left, hrg, h⟩ := h
  exact h.2.2.2.2

/-- 'range m'. -/
theorem wpList_range_num (hg : o.guard = none) (m : Operand) (hop : o.op = Op.range 111 m) (b n : Nat) (l : List Int)
    (hm : a.eval m = .map (some b)) (hown : SetIs w b n l)
    (hK : ∀ w', RangeU w' b w.heap.size n l [] l.length → w.grownBy w' none → w'.heap.size = w.heap.size + 1 → wpList Tryz.prog ops Q rest (a.put o.dst (.pointer (some ⟨w.heap.size, 0, none⟩))) w') :
    wpList Tryz.prog ops Q (o :: rest) a w := by
  obtain ⟨D, ho, hr⟩ := hown
  refine wpList_range_own w hg m 111 hop 79 112 lawU Tryz.underlying111 unitElem b n D hm ho (fun w' h1 h2 h3 => hK w' ?_ h2 h3)
  rw [hr.size] at h1
  exact ⟨D, _, h1, hr, List.nodup_nil, (fun p hp => by cases hp), (fun x => by rw [hr.has]; simp), by simp⟩

/-- THE STEP: nothing is left, and all have come; or one more has come. -/
theorem wpList_next_num (hg : o.guard = none) (it : Operand) (hop : o.op = Op.next it false) (b r n : Nat) (l d : List Int) (cnt : Nat)
    (hit : a.eval it = .pointer (some ⟨r, 0, none⟩)) (h : RangeU w b r n l d cnt)
    (hDone : (∀ x, x ∈ d ↔ x ∈ l) → wpList Tryz.prog ops Q rest (a.put o.dst (.tuple #[.bool false])) w)
    (hMore : ∀ (x : Int) (w' : World) (cnt' : Nat), x ∈ l → x ∉ d → In64 x → RangeU w' b r n l (d ++ [x]) cnt' → cnt' < cnt →
      w.grownBy w' (some r) → w'.heap.size = w.heap.size → (Instr.entry (.pointer (some ⟨r, 0, none⟩))).run Tryz.prog w' = .ok (.tuple #[.int .u64 x, .agg #[]]) w' → wpList Tryz.prog ops Q rest (a.put o.dst (.tuple #[.bool true, .int .u64 x, .agg #[]])) w') :
    wpList Tryz.prog ops Q (o :: rest) a w := by
  obtain ⟨D, left, hrg, hr, hod, hsub, hleft, hcnt⟩ := h
  refine wpList_next_ranges w hg it hop 79 lawU unitElem (Value.int .u64) (fun _ : Unit => Value.agg #[]) (fun key kl hkey => by obtain ⟨x, rfl, _⟩ := Maps.keyOf_int_inv Tryz.underlying79 hkey; exact ⟨x, rfl⟩) (fun v y hv => ⟨(), (unitElem_inv hv).1⟩) b r n D left cnt hit hrg (fun _ hl0 => hDone ?_)
    (fun x v k' y w' cnt' hkey hlk hv hat hrg' hlt hgr hsz hen => ?_)
  · intro x
    refine ⟨hsub x, fun hx => ?_⟩
    have h0 := hl0 (ku x)
    rw [hleft] at h0
    simpa [hx] using h0
  · obtain ⟨x', ex, rfl, hwx⟩ := Maps.keyOf_int_inv Tryz.underlying79 hkey
    cases ex
    have h1 : x ∈ l ∧ x ∉ d := by
      have := hlk
      rw [hleft] at this
      simpa using this
    refine hMore x w' cnt' h1.1 h1.2 (hr.wide x h1.1) ⟨D, _, hrg', hr, ?_, fun p hp => ?_, fun z => ?_, by rw [List.length_append, List.length_singleton]; omega⟩ hlt hgr hsz hen
    · rw [List.nodup_append]
      exact ⟨hod, by simp, fun a ha b hb e => by simp only [List.mem_singleton] at hb; subst hb; subst e; exact h1.2 ha⟩
    · rcases List.mem_append.1 hp with hp | hp
      · exact hsub p hp
      · simp only [List.mem_singleton] at hp
        subst hp
        exact h1.1
    · show (left (ku z) && !(ku z).sameKey (ku x)) = _
      rw [hleft]
      by_cases e : z = x
      · subst e
        rw [WideAt.sameKey_self (ku_key z)]
        simp
      · rw [sameKey_ne (fun h => e (ku_inj h))]
        simp [e]
end
end Go.Proofs.YtobbfenkdnaanaaGreatDoor
