/- Small words that the walks of this seat use: a fact kept from the walk, a byte of a text, what lies below. -/
import Derived.Below
import Derived.Lib.Hide
import Derived.Deep.Draws
set_option linter.unusedVariables false
set_option linter.unusedSimpArgs false
namespace Go.Proofs.YtobbfenkdnaanaaGreatDoor
open Go.RowKit

/-- A fact that the walk's own rewriting does not look into. -/
structure Aside0 (p : Prop) : Prop where mk :: (out : p)

/-- The byte of a text at a place, as a number. -/
def bt (s : ByteArray) (i : Int) : Int := if h : i.toNat < s.size then ((s[i.toNat]'h).toNat : Int) else 0
theorem bt_at (s : ByteArray) (i : Int) : ∀ h : i.toNat < s.size, ((s[i.toNat]'h).toNat : Int) = bt s i := fun h => by simp [bt, h]
theorem bt_range (s : ByteArray) (i : Int) : 0 ≤ bt s i ∧ bt s i ≤ 255 := by
  unfold bt
  split
  · rename_i h; have := (s[i.toNat]'h).toNat_lt; omega
  · omega

theorem below_alloc {w W : World} (h : Below w.heap.size w W) (o : Obj) : Below w.heap.size w (W.alloc o) := h.alloc h.size o
theorem below_drew {B : Nat} {w W : World} (h : Below B w W) : Below B w W.drew := ⟨h.os, h.tape, h.output, h.size, h.block⟩
theorem below_drewN {B : Nat} {w W : World} (h : Below B w W) (n : Nat) : Below B w (W.drewN n) := ⟨h.os, h.tape, h.output, h.size, h.block⟩
theorem below_step {w W w2 : World} (h : Below w.heap.size w W) (k : Below W.heap.size W w2) : Below w.heap.size w w2 := h.trans (k.mono h.size)
theorem cell_below {w w1 : World} (h : Below w.heap.size w w1) {a : Addr} {v : Value} (hc : w.cell? a = some v) : w1.cell? a = some v := (h.cell (World.block_lt_of_cell? w a hc)).trans hc
theorem bcell {W w1 : World} (hb : Below W.heap.size W w1) : (∀ b o, b < W.heap.size → w1.cell? ⟨b, o, none⟩ = W.cell? ⟨b, o, none⟩) ∧ (∀ b o, b < W.heap.size → w1.frozen? ⟨b, o, none⟩ = W.frozen? ⟨b, o, none⟩) :=
  ⟨fun b o h => hb.cell (p := ⟨b, o, none⟩) h, fun b o h => hb.frozen (p := ⟨b, o, none⟩) h⟩
end Go.Proofs.YtobbfenkdnaanaaGreatDoor
