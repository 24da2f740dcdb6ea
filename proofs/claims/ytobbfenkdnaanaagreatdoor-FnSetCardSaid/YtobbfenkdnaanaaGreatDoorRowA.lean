/- Rows of names that the call has made; sorted. -/
import Derived.Test.YtobbfenkdnaanaaGreatDoorFastA
import Derived.Test.YtobbfenkdnaanaaGreatDoorSrt
import Derived.Sort.OwnSorted
set_option linter.unusedVariables false
set_option linter.unusedSimpArgs false
namespace Go.Proofs.YtobbfenkdnaanaaGreatDoor
open Go.RowKit Go.Maps Go.WideMaps Go.Sort

/-- The slice owns a row of these names (elements of type e). -/
def RowN (w : World) (base : Nat) (e : TypeId) (v : Value) (ks : List ByteArray) : Prop := w.ownsRow base e 1 v ks.length (ks.map Value.string)
def sortN (ks : List ByteArray) : List ByteArray := ((ks.map (fun x => x.data.toList)).mergeSort leB).map (fun t => ⟨t.toArray⟩)
theorem map_enc (ks : List ByteArray) : ks.map Value.string = (ks.map (fun x => x.data.toList)).map encStr := by
  rw [List.map_map]
  apply List.map_congr_left
  intro x _
  show Value.string x = .string ⟨x.data.toList.toArray⟩
  rw [Array.toArray_toList]
theorem sortN_enc (ks : List ByteArray) : (sortN ks).map Value.string = ((ks.map (fun x => x.data.toList)).mergeSort leB).map encStr := by
  unfold sortN
  rw [List.map_map]
  rfl
theorem sortN_perm {ks ks' : List ByteArray} (h : ks.Perm ks') : sortN ks = sortN ks' := by
  unfold sortN
  rw [mergeSort_of_perm (h.map _)]
theorem sortN_length (ks : List ByteArray) : (sortN ks).length = ks.length := by
  unfold sortN
  rw [List.length_map, List.length_mergeSort, List.length_map]
theorem sortN_mem {ks : List ByteArray} {x : ByteArray} (h : x ∈ sortN ks) : x ∈ ks := by
  unfold sortN at h
  obtain ⟨t, ht, rfl⟩ := List.mem_map.1 h
  have := (List.mergeSort_perm _ _).mem_iff.1 ht
  obtain ⟨y, hy, rfl⟩ := List.mem_map.1 this
  rw [Array.toArray_toList]
  exact hy
/-- The contract of a sort of strings. -/
def SortAt (f : FuncId) : Prop := ∀ (blk off cap : Nat) (ss : List (List UInt8)) (w : World), Holds encStr w blk off ss.toArray → blk < w.heap.size → ss.length < 4611686018427387904 →
  Calls Tryz.prog f #[.slice (some ⟨blk, off, none⟩) ss.length cap] w fun e w' => e = .returned (.tuple #[]) ∧ ∃ n os, w' = grow (putRow encStr (Sort.ahead w n) blk off (ss.mergeSort fun x y => decide (x ≤ y)).toArray) os
theorem sortAt_names : SortAt 140 := fun blk off cap ss w h1 h2 h3 => Tryz.sort_names blk off cap ss w h1 h2 h3
theorem sortAt_strings : SortAt 56 := fun blk off cap ss w h1 h2 h3 => Tryz.sort_strings blk off cap ss w h1 h2 h3

theorem RowN.kept {w w' : World} {base : Nat} {e : TypeId} {v : Value} {ks : List ByteArray} {row : Option Nat} (h : RowN w base e v ks) (hg : w.grownBy w' row) (hne : v.ownBlock = none ∨ v.ownBlock ≠ row) : RowN w' base e v ks := World.ownsRow.kept h hg hne
theorem RowN.alloc {w : World} {base : Nat} {e : TypeId} {v : Value} {ks : List ByteArray} (h : RowN w base e v ks) (o : Obj) : RowN (w.alloc o) base e v ks := World.ownsRow.alloc h o
theorem RowN.form {w : World} {base : Nat} {e : TypeId} {v : Value} {ks : List ByteArray} (h : RowN w base e v ks) (hv : v ≠ .slice none 0 0) : ∃ g cap, v = .slice (some ⟨g, 0, none⟩) ks.length cap ∧ base ≤ g := by
  rcases h.2 with ⟨hnil, _⟩ | ⟨g, cap, cur, hv', hbase, hb, h1, h2, h3, h4⟩
  · exact absurd hnil hv
  · exact ⟨g, cap, hv', hbase⟩
theorem RowN.cell {w : World} {base g cap : Nat} {e : TypeId} {ks : List ByteArray} {n : Nat} (h : RowN w base e (.slice (some ⟨g, 0, none⟩) n cap) ks) (j : Nat) (hj : j < ks.length) : w.cell? ⟨g, j, none⟩ = some (.string (ks[j]'hj)) := by
  have hn : n = ks.length := by
    rcases h.2 with ⟨h0, _⟩ | ⟨g', cap', cur, hv, _⟩
    · cases h0
    · cases hv; rfl
  subst hn
  have h' : w.ownsRow base e 1 (.slice (some ⟨g, 0, none⟩) ks.length cap) ks.length (ks.map Value.string) := h
  rw [h'.cellAt j (by omega), List.getElem?_map, List.getElem?_eq_getElem hj]
  rfl
theorem RowN.ne_iter {w : World} {base : Nat} {e : TypeId} {v : Value} {ks : List ByteArray} {b r n : Nat} {l d : LL} {cnt : Nat} (h : RowN w base e v ks) (hr : RangeIs w b r n l d cnt) : some r ≠ v.ownBlock := by
  obtain ⟨D, left, hrg, _⟩ := hr
  exact row_ne_iter h hrg
theorem RowN.ne_low {w : World} {base : Nat} {e : TypeId} {v : Value} {ks : List ByteArray} (h : RowN w base e v ks) {b : Nat} (hb : b < base) : some b ≠ v.ownBlock := row_ne_low h hb

/-- THE SORT, of a row of the call's own. -/
theorem sort_row {f : FuncId} (hf : SortAt f) {w : World} {base g cap n0 : Nat} {e : TypeId} {ks : List ByteArray} (h : RowN w base e (.slice (some ⟨g, 0, none⟩) n0 cap) ks) (hk : ks.length ≤ 1000000) (hn0 : n0 = ks.length) :
    Calls Tryz.prog f #[.slice (some ⟨g, 0, none⟩) n0 cap] w fun x w' => x = .returned (.tuple #[]) ∧ RowN w' base e (.slice (some ⟨g, 0, none⟩) n0 cap) (sortN ks) ∧ w.grownBy w' (some g) := by
  subst hn0
  rcases h.2 with ⟨h0, _⟩ | ⟨g', cap', cur, hv, hbase, hb, h1, h2, h3, h4⟩
  · cases h0
  cases hv
  have hl : (ks.map (fun x => x.data.toList)).length = ks.length := List.length_map ..
  have hH : Holds encStr w g 0 (ks.map (fun x => x.data.toList)).toArray := holds_of_block hb (by rw [hl, ← map_enc]; simpa using h4)
  have hgl : g < w.heap.size := (Array.getElem?_eq_some_iff.1 hb).1
  have hc := hf g 0 cap (ks.map (fun x => x.data.toList)) w hH hgl (by omega)
  rw [hl] at hc
  refine hc.mono ?_
  rintro x w' ⟨rfl, n, os, rfl⟩
  refine ⟨rfl, ?_, grownBy_sorted _⟩
  have := ownsRow_sorted (w := w) (base := base) (g := g) (cap := cap) (n := n) (e := e) (os := os) (cur := cur) (ss := ks.map (fun x => x.data.toList)) (ts := (ks.map (fun x => x.data.toList)).mergeSort leB) (by simp) hbase hb (by omega) h2 h3
  rw [hl] at this
  show World.ownsRow _ base e 1 _ (sortN ks).length _
  rw [sortN_length, sortN_enc]
  exact this
end Go.Proofs.YtobbfenkdnaanaaGreatDoor
