/- Lines of labels as texts, joined; strconv.Quote and strings.Join, by contract. -/
import Derived.Test.YtobbfenkdnaanaaGreatDoorLsB
import Derived.Test.YtobbfenkdnaanaaGreatDoorQjr
set_option linter.unusedVariables false
set_option linter.unusedSimpArgs false
namespace Go.Proofs.YtobbfenkdnaanaaGreatDoor
open Go.RowKit Go.Maps Go.WideMaps Go.Sort Go.Proofs

/-- A label's line as a text. -/
def rtB (T : Lib.PrintTabs) (p : ByteArray × ByteArray) : ByteArray := p.1 ++ ⟨#[61]⟩ ++ strOfNums (Lib.quoteZ T p.2)
theorem rtB_line (T : Lib.PrintTabs) (p : ByteArray × ByteArray) : rtB T p = strOfNums (lineN T p) := by
  unfold rtB lineN
  rw [show codes p.1 ++ (61 :: Lib.quoteZ T p.2) = codes p.1 ++ [61] ++ Lib.quoteZ T p.2 by simp, strOf_append, strOf_append, strOf_codes]
  rfl
theorem rtB_size (T : Lib.PrintTabs) (p : ByteArray × ByteArray) (h1 : p.1.size ≤ 300) (h2 : p.2.size ≤ 300) : (rtB T p).size ≤ 3303 := by
  rw [rtB_line, strOfNums_size]
  exact lineN_len T p h1 h2
/-- Texts with ', ' between them. -/
def joinB (ks : List ByteArray) : ByteArray := ⟨(Lib.join (ks.map (·.data.toList)) [44, 32]).toArray⟩
theorem flat_bytes : ∀ l : List (List Int), (l.flatMap (fun y => 44 :: 32 :: y)).map (fun n => UInt8.ofNat n.toNat) = Lib.joinTail [44, 32] (l.map fun x => x.map fun n => UInt8.ofNat n.toNat)
  | [] => rfl
  | x :: l => by
    have := flat_bytes l
    simp only [List.flatMap_cons, List.map_append, this, Lib.joinTail, List.map_cons, List.flatten_cons]
    rfl
theorem joinB_nums (l : List (List Int)) : joinB (l.map strOfNums) = strOfNums (joinN l) := by
  apply ByteArray.ext
  apply Array.toList_inj.mp
  rw [strOfNums_data]
  unfold joinB
  cases l with
  | nil => rfl
  | cons x l =>
    show Lib.join _ _ = _
    simp only [List.map_cons]
    rw [Lib.join_cons, joinN, List.map_append, flat_bytes]
    congr 1
    rw [List.map_map]
    rfl
/-- The text of a set of labels. -/
def setT (T : Lib.PrintTabs) (l : LL) : ByteArray := ⟨#[123]⟩ ++ joinB (l.map (rtB T)) ++ ⟨#[125]⟩
theorem set_text (T : Lib.PrintTabs) {l : LL} (h : Rise l) : strOfNums (setN T l) = setT T l := by
  have e : linesN T l (sortN (l.map Prod.fst)) = l.map (lineN T) := by
    rw [sortN_rise h]
    unfold linesN
    rw [List.map_map]
    apply List.map_congr_left
    intro p hp
    show lineN T (p.1, (getL l p.1).getD ⟨#[]⟩) = lineN T p
    rw [getL_of_mem (v := p.2) (once_of_rise h) hp]
    rfl
  unfold setN setT
  rw [e, show (123 :: (joinN (l.map (lineN T)) ++ [125])) = [123] ++ joinN (l.map (lineN T)) ++ [125] by simp, strOf_append, strOf_append]
  have e2 : l.map (rtB T) = (l.map (lineN T)).map strOfNums := by
    rw [List.map_map]
    apply List.map_congr_left
    intro p _
    exact rtB_line T p
  rw [e2, joinB_nums]
  rfl

theorem joinX : Builder.Extra Tryz.prog Tryz.laysJoin_ren := {
  sizeBuilder := by kernel_rfl
  liesBuilder := by kernel_rfl
  t5 := Tryz.underlying5
  a5 := Tryz.isAgg5
  z5 := Tryz.sizeOf5
  v5 := Tryz.zeroValue5
  infoByte := by kernel_rfl
  cellsByte := by kernel_rfl
  sizeByte := by kernel_rfl
  neB5 := by decide }

theorem quote_calls (T : Lib.PrintTabs) (s : ByteArray) (w : World) (hs : s.size ≤ 300) (hT : Lib.PrintTabsAt 8 9 10 11 T w) (hU : Lib.Utf8Tabs 0 1 w) :
    Calls Tryz.prog 100 #[.string s] w fun e w' => e = .returned (.string (strOfNums (Lib.quoteZ T s))) ∧ Below w.heap.size w w' :=
  Any.strconv_Quote Tryz.laysQuote (by kernel_rfl) T s w (by omega) hT hU

theorem lens_le (k : Nat) : ∀ ks : List (List UInt8), (∀ x ∈ ks, x.length ≤ k) → Lib.lens ks ≤ ks.length * k
  | [], _ => by simp [Lib.lens]
  | x :: ks, h => by
    have h1 := h x (List.mem_cons_self ..)
    have h2 := lens_le k ks fun y hy => h y (List.mem_cons_of_mem _ hy)
    simp only [Lib.lens, List.map_cons, List.sum_cons, List.length_cons, Nat.add_mul] at h2 ⊢
    omega
theorem join_len {ks : List ByteArray} (hk : ks.length ≤ 20) (hs : ∀ x ∈ ks, x.size ≤ 3303) : (Lib.join (ks.map (·.data.toList)) [44, 32]).length ≤ 100000 := by
  cases ks with
  | nil => simp [Lib.join_nil]
  | cons x ks =>
    simp only [List.map_cons]
    rw [Lib.join_cons, List.length_append, Lib.joinTail_length]
    have h1 : x.data.toList.length ≤ 3303 := hs x (List.mem_cons_self ..)
    have h2 := lens_le 3303 (ks.map (·.data.toList)) (fun y hy => by
      obtain ⟨z, hz, rfl⟩ := List.mem_map.1 hy
      exact hs z (List.mem_cons_of_mem _ hz))
    rw [List.length_map] at h2 ⊢
    have h3 : ks.length ≤ 19 := by simpa using hk
    have h4 : ks.length * 3303 ≤ 19 * 3303 := Nat.mul_le_mul_right _ h3
    simp only [List.length_cons, List.length_nil]
    omega
theorem join_calls {w : World} {base g cap n0 : Nat} {e : TypeId} {ks : List ByteArray} (h : RowN w base e (.slice (some ⟨g, 0, none⟩) n0 cap) ks) (hk : ks.length ≤ 20) (hs : ∀ x ∈ ks, x.size ≤ 3303) :
    Calls Tryz.prog 101 #[.slice (some ⟨g, 0, none⟩) n0 cap, .string ⟨#[44, 32]⟩] w fun e w' => e = .returned (.string (joinB ks)) ∧ Below w.heap.size w w' := by
  have hc := fun j (hj : j < ks.length) => RowN.cell h j hj
  rcases h.2 with ⟨h0, _⟩ | ⟨g', cap', cur, hv, hbase, hb, h1, h2, h3, h4⟩
  · cases h0
  cases hv
  exact Any.strings_Join Tryz.laysJoin joinX g 0 cap ks ⟨#[44, 32]⟩ w (fun j x hj => by
    obtain ⟨hj', hx⟩ := List.getElem?_eq_some_iff.1 hj
    rw [Nat.zero_add, hc j hj', hx]) (Lib.lt_of_heap hb) (by omega) h1 (by have := join_len hk hs; show (Lib.join _ [44, 32]).length ≤ _; omega)
theorem join_none (w : World) (a : Option Addr) (c : Nat) : Calls Tryz.prog 101 #[.slice a 0 c, .string ⟨#[44, 32]⟩] w fun e w' => e = .returned (.string ⟨#[]⟩) ∧ w' = w :=
  Any.strings_Join_none Tryz.laysJoin joinX a c ⟨#[44, 32]⟩ w
end Go.Proofs.YtobbfenkdnaanaaGreatDoor
