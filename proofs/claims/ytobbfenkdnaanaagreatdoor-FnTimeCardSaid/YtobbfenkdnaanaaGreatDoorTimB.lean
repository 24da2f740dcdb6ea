/- The digits of a number laid into a block: setDigits, walked. -/
import Derived.Test.YtobbfenkdnaanaaGreatDoorTimA
import Derived.Lib.ItoaMem
import Derived.Lib.ItoaLen
import Derived.Deep.LoopGhost
set_option linter.unusedVariables false
set_option linter.unusedSimpArgs false
namespace Go.Proofs.YtobbfenkdnaanaaGreatDoor
open Go.RowKit Go.Sort

/-- The bytes of a list lie at a block's front. -/
def BytesAt (w : World) (b : Nat) (l : List UInt8) : Prop := ∀ (j : Nat) (x : UInt8), l[j]? = some x → w.cell? ⟨b, j, none⟩ = some (.int .u8 (x.toNat : Int))

theorem BytesAt.below {w w' : World} {b B : Nat} {l : List UInt8} (h : BytesAt w b l) (hb : Below B w w') (hB : b < B) : BytesAt w' b l :=
  fun j x hj => (hb.cell (p := ⟨b, j, none⟩) hB).trans (h j x hj)

/-- A block of noughts, n of them at least, to be written to. -/
def Blank (w : World) (b n : Nat) : Prop := ∀ j, j < n → w.cell? ⟨b, j, none⟩ = some (.int .u8 0) ∧ w.frozen? ⟨b, j, none⟩ = false

theorem digits_calls (b u n cap : Nat) (h1 : 1 ≤ u) (h2 : u < 18446744073709551616) (hn : Lib.nDigits u ≤ n) (w : World) (hw : Blank w b n) :
    Calls Tryz.prog 217 #[.slice (some ⟨b, 0, none⟩) (Lib.nDigits u) cap, .int .u64 u] w fun e w' => e = .returned (.tuple #[]) ∧ BytesAt w' b (Lib.decDigits u) ∧ Below b w w' := by
  have hH : Holds (fun (b : UInt8) => Value.int .u8 (b.toNat : Int)) w b 0 (Array.replicate (Lib.nDigits u) (0 : UInt8)) := by
    intro j hj
    rw [Array.size_replicate] at hj
    have := hw j (by omega)
    rw [Nat.zero_add]
    refine ⟨?_, this.2⟩
    rw [this.1]
    simp [hj]
  have hc := Tryz.internal_strconv_formatBase10 b 0 cap u (Array.replicate (Lib.nDigits u) 0) w hH (by rw [Array.size_replicate]; exact Lib.lt_pow_nDigits u) h2 (by rw [Array.size_replicate]; have := Lib.nDigits_le20 u h2; omega)
  rw [Array.size_replicate] at hc
  refine hc.mono ?_
  rintro e w' ⟨rfl, k, v', dk, rfl, hf⟩
  have hs : dk.size = (Array.replicate (Lib.nDigits u) (0 : UInt8)).size := by rw [hf.size, Array.size_replicate]
  refine ⟨rfl, ?_, ?_⟩
  · intro j x hj
    obtain ⟨hlt, hx⟩ := List.getElem?_eq_some_iff.1 hj
    have hnum := Lib.row_is_numeral hf j hlt
    have := cell?_putRow _ w b 0 _ dk hH hs j (by rw [hf.size]; rw [Lib.decDigits_length] at hlt; exact hlt)
    rw [Nat.zero_add] at this
    show ((putRow (fun (b : UInt8) => Value.int .u8 (b.toNat : Int)) w b 0 dk).drewN k).cell? ⟨b, j, none⟩ = _
    refine Eq.trans this ?_
    rw [← hnum, hx]
  · refine ⟨rfl, rfl, rfl, ?_, ?_⟩
    · show w.heap.size ≤ (putRow _ w b 0 dk).heap.size
      rw [size_putRow]; exact Nat.le_refl _
    · intro i hi
      show (mapBlock w b _).heap[i]? = w.heap[i]?
      simp only [mapBlock, Array.getElem?_modify]
      rw [if_neg (by omega)]

/-- Where the noughts at the end begin. -/
def Trim (l : List UInt8) (k : Nat) : Prop := k ≤ l.length ∧ (∀ j, k ≤ j → j < l.length → l[j]? = some 48) ∧ (k = 0 ∨ ∃ x, l[k - 1]? = some x ∧ x ≠ 48)

set_option maxRecDepth 100000 in
theorem setDigits_calls (b u C : Nat) (p : Int) (h1 : 1 ≤ u) (h2 : u < 18446744073709551616) (hC : 20 ≤ C) (hC2 : C ≤ 100) (hp0 : -100 ≤ p) (hp1 : p ≤ 100) (w : World) (hw : Blank w b C) :
    Calls Tryz.prog 305 #[.slice (some ⟨b, 0, none⟩) C C, .int .u64 u, .int .i64 p, .int .i64 (Lib.nDigits u)] w fun e w' => ∃ k, Trim (Lib.decDigits u) k ∧
      e = .returned (.tuple #[.int .i64 ((Lib.nDigits u : Int) + p), .int .i64 k]) ∧ BytesAt w' b (Lib.decDigits u) ∧ Below b w w' := by
  have hn20 := Lib.nDigits_le20 u h2
  obtain ⟨n, hn⟩ : ∃ n, n = Lib.nDigits u := ⟨_, rfl⟩
  have HN := Aside0.mk hn
  have HD := Aside0.mk (digits_calls b u C C h1 h2 (by omega) w hw)
  rw [← hn] at hn20 HD ⊢
  have c1 : decide ((n : Int) ≤ (C : Int)) = true := decide_eq_true (by omega)
  obtain ⟨l, hl⟩ : ∃ l, l = Lib.decDigits u := ⟨_, rfl⟩
  have HL := Aside0.mk (show l.length = n by rw [hl, Lib.decDigits_length, hn])
  rw [← hl] at HD ⊢
  clear hn hl hw
  obtain ⟨wo, hwo⟩ : ∃ wo : World, wo = w := ⟨_, rfl⟩
  subst hwo
  go_enter Tryz.func305, Tryz.ntmps305
  go_wp2_with fail
  refine HD.out.mono ?_
  rintro e w1 ⟨rfl, hby, hb⟩
  have HBY := Aside0.mk hby
  have HB := Aside0.mk hb
  clear hby hb
  go_wp2_with fail
  go_loopg [3] n (fun g v3 w' => v3 = .int .i64 (g : Int) ∧ g ≤ n ∧ w' = w1 ∧ Aside0 (∀ j, g ≤ j → j < l.length → l[j]? = some 48))
  case atStart => exact ⟨rfl, Nat.le_refl _, rfl, ⟨fun j h1 h2 => by have := HL.out; omega⟩⟩
  case round =>
    obtain ⟨rfl, hgn, rfl, HA⟩ := hrel
    by_cases h0 : gk = 0
    · subst h0
      have c0 : decide (((0 : Nat) : Int) > 0) = false := decide_eq_false (by omega)
      go_wp2_with fail
      refine bodyPost_ret (v := .tuple #[.int .i64 ((n : Int) + p), .int .i64 ((0 : Nat) : Int)]) (by simp [results, Tryz.results305, go_sem]) rfl ⟨0, ⟨Nat.zero_le _, HA.out, Or.inl rfl⟩, rfl, HBY.out, HB.out⟩
    · obtain ⟨g1, rfl⟩ : ∃ m, gk = m + 1 := ⟨gk - 1, by omega⟩
      have c0 : decide (((g1 + 1 : Nat) : Int) > 0) = true := decide_eq_true (by omega)
      obtain ⟨x, hx⟩ : ∃ x, l[g1]? = some x := ⟨l[g1]'(by have := HL.out; omega), List.getElem?_eq_getElem _⟩
      have cx := HBY.out g1 x hx
      have HX := Aside0.mk hx
      clear hx h0
      by_cases h48 : x = 48
      · subst h48
        rw [show (((48 : UInt8).toNat : Nat) : Int) = 48 from rfl] at cx
        go_wp2_with fail
        go_roundg g1
        case measure => omega
        case rel =>
          refine ⟨by go_num, by omega, rfl, ⟨fun j h1 h2 => ?_⟩⟩
          rcases Nat.lt_or_ge g1 j with h | h
          · exact HA.out j (by omega) h2
          · have : j = g1 := by omega
            subst this; exact HX.out
      · have cq : (((x.toNat : Nat) : Int) == 48) = false := by
          refine beq_eq_false_iff_ne.2 (fun h => h48 ?_)
          exact UInt8.toNat_inj.1 (by rw [show (48 : UInt8).toNat = 48 from rfl]; omega)
        have HNE := Aside0.mk h48
        clear h48
        go_wp2_with fail
        refine bodyPost_ret (v := .tuple #[.int .i64 ((n : Int) + p), .int .i64 ((g1 + 1 : Nat) : Int)]) (by simp [results, Tryz.results305, go_sem]) rfl ⟨g1 + 1, ⟨by have := HL.out; omega, HA.out, Or.inr ⟨x, by simpa using HX.out, HNE.out⟩⟩, rfl, HBY.out, HB.out⟩
end Go.Proofs.YtobbfenkdnaanaaGreatDoor
