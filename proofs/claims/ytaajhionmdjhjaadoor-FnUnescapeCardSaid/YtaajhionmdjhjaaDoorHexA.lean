/- A number told at base 16: internal/strconv's FormatInt by contract. -/
import Derived.Test.YtaajhionmdjhjaaDoorDurF
import Derived.Laws.BytesArg
import Derived.Deep.LoopGhost
import Derived.Laws.BitsAllLaws
set_option linter.unusedVariables false
set_option linter.unusedSimpArgs false
namespace Go.Proofs.YtaajhionmdjhjaaDoor
open Go.RowKit

/-- The letters of the digits. -/
abbrev digs : ByteArray := ⟨#[48, 49, 50, 51, 52, 53, 54, 55, 56, 57, 97, 98, 99, 100, 101, 102, 103, 104, 105, 106, 107, 108, 109, 110, 111, 112, 113, 114, 115, 116, 117, 118, 119, 120, 121, 122]⟩
/-- A digit's letter. -/
def hexD (d : Nat) : Int := if d < 10 then 48 + d else 87 + d
theorem digs_lt (d : Fin 16) : d.val < digs.size := Nat.lt_of_lt_of_le d.isLt (by decide)
theorem hex_all : ∀ d : Fin 16, ((digs[d.val]'(digs_lt d)).toNat : Int) = hexD d.val := by decide
theorem hex_at (u : Nat) (h : u < 16) (h' : u < digs.size) : ((digs[u]'h').toNat : Int) = hexD u := hex_all ⟨u, h⟩
/-- The letters ahead of those that are written. -/
def hexR : Nat → Nat → List Int → List Int
  | 0, u, acc => hexD u :: acc
  | f + 1, u, acc => if u < 16 then hexD u :: acc else hexR f (u / 16) (hexD (u % 16) :: acc)
def hexL (c : Nat) : List Int := hexR 8 c []
/-- What the table of trailing zeros says of 16. -/
def Ctz (w : World) : Prop := w.cell? ⟨6, 15, none⟩ = some (.int .u8 4)

set_option maxRecDepth 100000 in
theorem ctz_calls (w : World) (h : Ctz w) : Calls Tryd.prog 104 #[.int .u64 16] w fun e w' => e = .returned (.int .i64 4) ∧ w' = w := by
  unfold Ctz at h
  have n0 : IntKind.u64.wrap (-16) = 18446744073709551600 := by decide
  have n1 : bits BinOp.and IntKind.u64 16 18446744073709551600 = 16 := by decide
  have n2 : IntKind.u64.wrap (16 * 285870213051353865) = 4573923408821661840 := by decide
  go_enter Tryd.func104, Tryd.ntmps104
  go_wp2_with (go_at_call 111; go_in)
  go_ret
  exact ⟨rfl, rfl⟩

/-- The row of the letters: those from place j on are written. -/
structure Row (w0 : World) (j : Nat) (acc : List Int) (w : World) : Prop where
  below : Below w0.heap.size w0 w
  size : w0.heap.size < w.heap.size
  cell : ∀ k, k < 65 → ∃ v, w.cell? ⟨w0.heap.size, k, none⟩ = some v
  frz : ∀ k, k < 65 → w.frozen? ⟨w0.heap.size, k, none⟩ = false
  held : ∀ k, k < acc.length → w.cell? ⟨w0.heap.size, j + k, none⟩ = some (.int .u8 (acc.getD k 0))
theorem row_start (w : World) : Row w 65 [] (w.alloc (.cells Tryd.zeroCells128 128)) where
  below := (Below.refl w.heap.size w).alloc (Nat.le_refl _) _
  size := by simp
  cell := fun k hk => by
    have h65 : Tryd.zeroCells128.size = 65 := by decide
    exact ⟨Tryd.zeroCells128[k]'(by omega), by simp [go_sem, h65, hk]⟩
  frz := fun k hk => by simp [go_sem]
  held := fun k hk => by simp at hk

theorem slice_eq (N j : Nat) (hj : j ≤ 64) (w : World) : (Instr.sliceAt 128 (.pointer (some ⟨N, 0, none⟩)) (some (.int .i64 (j : Int))) none none).run Tryd.prog w = .ok (.slice (some ⟨N, j, none⟩) (65 - j) (65 - j)) w := by
  have hal : Tryd.prog.arrayLen 128 = 65 := by simp [Program.arrayLen, Tryd.underlying128]
  have hel : Tryd.prog.elem 128 = 5 := by simp [Program.elem, Tryd.underlying128]
  rw [run_sliceAt_array_l w 128 ⟨N, 0, none⟩ (by rw [hal, hel]; exact Tryd.underlying128) .i64 (j : Int) (by omega) (by rw [hal]; omega)]
  rw [hal, hel, Tryd.sizeOf5]
  have hne : ¬ (65 = j) := by omega
  simp [slicedAt, Addr.add, Result.andThen, hne]
  exact fun h => h.symm
/-- The row read as a text. -/
theorem row_text {w0 w : World} {j : Nat} {acc : List Int} (hr : Row w0 j acc w) (hl : acc.length = 65 - j) (cap : Nat) :
    (convert 73 9 (.slice (some ⟨w0.heap.size, j, none⟩) (65 - j) cap)).run Tryd.prog w = .ok (.string (strOfNums acc)) w :=
  run_convert_bytes_arg (P := Tryd.prog) w 73 5 Tryd.underlying73 Tryd.underlying5 w0.heap.size j (65 - j) cap acc hl (fun i hi => hr.held i (by omega)) 9 Tryd.underlying9
/-- One letter more. -/
theorem Row.put {w0 w : World} {j : Nat} {acc : List Int} (hr : Row w0 (j + 1) acc w) (hj : j < 65) (d : Int) (hl : j + 1 + acc.length ≤ 65) : Row w0 j (d :: acc) (w.setCell ⟨w0.heap.size, j, none⟩ (.int .u8 d)) where
  below := hr.below.setCell (p := ⟨w0.heap.size, j, none⟩) (Nat.le_refl _) _
  size := by have := hr.size; simpa [World.setCell] using this
  cell := fun k hk => by
    by_cases e : k = j
    · subst e; obtain ⟨v, hv⟩ := hr.cell k hk; exact ⟨.int .u8 d, by simp [go_sem, hv]⟩
    · obtain ⟨v, hv⟩ := hr.cell k hk; exact ⟨v, by simp [go_sem, hv, e]⟩
  frz := fun k hk => by have := hr.frz k hk; simp [go_sem, this]
  held := fun k hk => by
    rcases k with _ | k
    · obtain ⟨v, hv⟩ := hr.cell j hj; simp [go_sem, hv]
    · have := hr.held k (by simpa using hk)
      rw [show j + (k + 1) = j + 1 + k by omega]
      simp [go_sem, this]

set_option maxRecDepth 100000 in
theorem bits_calls (c : Nat) (hc : c ≤ 1114111) (w : World) (h : Ctz w) (h7 : 7 ≤ w.heap.size) :
    Calls Tryd.prog 89 #[.slice none 0 0, .int .u64 (c : Int), .int .i64 16, .bool false, .bool false] w fun e w' => e = .returned (.tuple #[.slice none 0 0, .string (strOfNums (hexL c))]) ∧ Below w.heap.size w w' := by
  have n0 : bits BinOp.and IntKind.i64 16 15 = 0 := by decide
  have H := Aside0.mk h; clear h
  have k1 := (Below.refl w.heap.size w).alloc (Nat.le_refl _) (.cells Tryd.zeroCells128 128)
  go_enter Tryd.func89, Tryd.ntmps89
  go_wp2_with (first | (go_at_call 103; go_in) | (go_at_call 104; refine (ctz_calls _ (cell_below k1 H.out)).mono ?_; rintro e w1 ⟨rfl, rfl⟩))
  obtain ⟨wo, hwo⟩ : ∃ wo : World, wo = w := ⟨_, rfl⟩
  subst hwo
  go_loopg [1, 13] 9 (fun kq v1 v13 w' => ∃ (u j : Nat) (acc : List Int), v1 = .int .u64 (u : Int) ∧ v13 = .int .i64 ((j : Int) + 1) ∧ u < 16 ^ kq ∧ u ≤ 1114111 ∧ kq ≤ 9 ∧ 1 ≤ kq ∧ j + 9 = 64 + kq ∧ acc.length + kq = 9 ∧ Aside0 (hexR (kq - 1) u acc = hexL c) ∧ Aside0 (Row wo (j + 1) acc w'))
  case atStart => exact ⟨c, 64, [], rfl, rfl, Nat.lt_of_le_of_lt hc (by decide), hc, by omega, by omega, by omega, by simp, ⟨rfl⟩, ⟨row_start wo⟩⟩
  case round =>
    obtain ⟨u, j, acc, rfl, rfl, hu, hu2, hk9, hk1, hj, hal, HA, HR⟩ := hrel
    obtain ⟨g1, rfl⟩ : ∃ m, gk = m + 1 := ⟨gk - 1, by omega⟩
    have HU := Aside0.mk hu; clear hu
    obtain ⟨old, cm⟩ := HR.out.cell j (by omega)
    have fm := HR.out.frz j (by omega)
    by_cases hlt : u < 16
    · have hxi : ∀ h : u < digs.size, ((digs[u]'h).toNat : Int) = hexD u := fun h => hex_at u hlt h
      have hput := HR.out.put (by omega) (hexD u) (by omega)
      have sl := slice_eq wo.heap.size j (by omega)
      have cv := row_text hput (by simp; omega)
      have HF := Aside0.mk (show hexD u :: acc = hexL c by rw [← HA.out]; rcases g1 with _ | g <;> simp [hexR, hlt])
      have HP := Aside0.mk hput.below
      clear hput
      go_wp2
      refine bodyPost_ret (v := .tuple #[.slice none 0 0, .string (strOfNums (hexD u :: acc))]) (by simp [results, Tryd.results89, go_sem]) rfl ⟨by rw [HF.out], HP.out⟩
    · have hmod : u % 16 < 16 := by omega
      have hxi : ∀ h : u % 16 < digs.size, ((digs[u % 16]'h).toNat : Int) = hexD (u % 16) := fun h => hex_at (u % 16) hmod h
      have hb : bits BinOp.and IntKind.u64 (u : Int) 15 = ((u % 16 : Nat) : Int) := by
        have := u64_and_nat u 15 (by omega) (by omega)
        rw [show u &&& 15 = u % 16 from Nat.and_two_pow_sub_one_eq_mod u 4] at this
        exact this
      have g2 := HU.out
      obtain ⟨g0, rfl⟩ : ∃ m, g1 = m + 1 := ⟨g1 - 1, by
        rcases g1 with _ | m
        · simp at g2; omega
        · rfl⟩
      obtain ⟨m, rfl⟩ : ∃ m, j = m + 1 := ⟨j - 1, by omega⟩
      have hq : u / 16 < 16 ^ (g0 + 1) := by
        rw [Nat.pow_succ] at g2
        exact Nat.div_lt_of_lt_mul (by omega)
      have hput := HR.out.put (by omega) (hexD (u % 16)) (by omega)
      have HF := Aside0.mk (show hexR g0 (u / 16) (hexD (u % 16) :: acc) = hexL c by rw [← HA.out]; simp [hexR, hlt])
      have HP := Aside0.mk hput
      have HQ := Aside0.mk hq
      clear hput g2 hq
      go_wp2
      go_roundg (g0 + 1)
      case measure => omega
      case rel => exact ⟨u / 16, m, hexD (u % 16) :: acc, by go_num, by go_num, HQ.out, by omega, by omega, by omega, by omega, by simp; omega, HF, HP⟩

/-- A rune's text at base 16. -/
def hexT (c : Nat) : ByteArray := strOfNums (hexL c)

set_option maxRecDepth 100000 in
theorem hex_calls (c : Nat) (hc : c ≤ 1114111) (w : World) (h : Ctz w) (h7 : 7 ≤ w.heap.size) :
    Calls Tryd.prog 37 #[.int .i64 (c : Int), .int .i64 16] w fun e w' => e = .returned (.string (hexT c)) ∧ Below w.heap.size w w' := by
  have H := Aside0.mk h; clear h
  go_enter Tryd.func37, Tryd.ntmps37
  go_wp2_with (go_at_call 74; go_in)
  refine (bits_calls c hc w H.out h7).mono ?_
  rintro e w1 ⟨rfl, hb⟩
  go_wp2
  go_ret
  exact ⟨rfl, hb⟩
end Go.Proofs.YtaajhionmdjhjaaDoor
