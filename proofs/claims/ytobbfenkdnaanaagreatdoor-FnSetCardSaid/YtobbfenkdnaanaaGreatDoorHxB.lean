/- A number at base 16: all its sixteen digits, and the shortest text with noughts ahead (plain). A number told at base 16: internal/strconv's FormatInt by contract. A fingerprint's sixteen digits: zzHex16, Fingerprint.String, by contract. -/
import Derived.Deep.LoopGhost
import Derived.Test.YtobbfenkdnaanaaGreatDoorKt
import Derived.Laws.BytesArg
import Derived.Laws.BitsAllLaws
import Derived.Laws.MakeOwn
import Derived.OwnWalk
set_option linter.unusedVariables false
set_option linter.unusedSimpArgs false
namespace Go.Proofs.YtobbfenkdnaanaaGreatDoor

/-- A digit's letter. -/
def hexD (d : Nat) : Int := if d < 10 then 48 + d else 87 + d
/-- The letters ahead of those that are written. -/
def hexR : Nat → Nat → List Int → List Int
  | 0, u, acc => hexD u :: acc
  | f + 1, u, acc => if u < 16 then hexD u :: acc else hexR f (u / 16) (hexD (u % 16) :: acc)
/-- The shortest text. -/
def hexL (u : Nat) : List Int := hexR 15 u []
/-- k digits. -/
def hexW : Nat → Nat → List Int
  | 0, _ => []
  | k + 1, u => hexW k (u / 16) ++ [hexD (u % 16)]
theorem hexW_length : ∀ (k u : Nat), (hexW k u).length = k
  | 0, u => rfl
  | k + 1, u => by simp [hexW, hexW_length k]
theorem hexW_zero : ∀ k : Nat, hexW k 0 = List.replicate k 48
  | 0 => rfl
  | k + 1 => by
    rw [hexW, Nat.zero_div, hexW_zero k, List.replicate_succ']
    rfl
theorem hexR_pad : ∀ (f u : Nat) (acc : List Int), u < 16 ^ (f + 1) → ∃ k, k ≤ f ∧ List.replicate k 48 ++ hexR f u acc = hexW (f + 1) u ++ acc
  | 0, u, acc, h => ⟨0, Nat.le_refl _, by
    have h' : u < 16 := by simpa using h
    simp [hexR, hexW, Nat.mod_eq_of_lt h']⟩
  | f + 1, u, acc, h => by
    by_cases h' : u < 16
    · refine ⟨f + 1, Nat.le_refl _, ?_⟩
      rw [hexR, if_pos h', hexW, Nat.div_eq_of_lt h', hexW_zero, Nat.mod_eq_of_lt h']
      simp
    · have hq : u / 16 < 16 ^ (f + 1) := by
        rw [Nat.pow_succ] at h
        exact Nat.div_lt_of_lt_mul (by omega)
      obtain ⟨k, hk, he⟩ := hexR_pad f (u / 16) (hexD (u % 16) :: acc) hq
      refine ⟨k, by omega, ?_⟩
      rw [hexR, if_neg h', he, show hexW (f + 1 + 1) u = hexW (f + 1) (u / 16) ++ [hexD (u % 16)] from rfl, List.append_assoc]
      rfl
/-- Noughts and the shortest text are the sixteen digits. -/
theorem hexL_pad (u : Nat) (h : u < 18446744073709551616) : (hexL u).length ≤ 16 ∧ List.replicate (16 - (hexL u).length) 48 ++ hexL u = hexW 16 u := by
  obtain ⟨k, hk, he⟩ := hexR_pad 15 u [] (by simpa using h)
  have hl := congrArg List.length he
  rw [List.append_nil] at he
  simp only [List.length_append, List.length_replicate, hexW_length, List.length_nil] at hl
  unfold hexL
  have e : 16 - (hexR 15 u []).length = k := by omega
  exact ⟨by omega, by rw [e]; exact he⟩
/-- The digits from the left. -/
theorem hexW_at : ∀ (k u j : Nat) (h : j < k), (hexW k u)[j]'(by rw [hexW_length]; exact h) = hexD (u / 16 ^ (k - 1 - j) % 16)
  | k + 1, u, j, h => by
    by_cases hj : j < k
    · have e : (hexW (k + 1) u)[j]'(by rw [hexW_length]; exact h) = (hexW k (u / 16))[j]'(by rw [hexW_length]; exact hj) := by
        simp only [hexW]
        rw [List.getElem_append_left]
      rw [e, hexW_at k (u / 16) j hj, Nat.div_div_eq_div_mul]
      have e2 : 16 * 16 ^ (k - 1 - j) = 16 ^ (k + 1 - 1 - j) := by
        rw [show k + 1 - 1 - j = (k - 1 - j) + 1 by omega, Nat.pow_succ, Nat.mul_comm]
      rw [e2]
    · obtain rfl : j = k := by omega
      simp only [hexW]
      rw [List.getElem_append_right (by rw [hexW_length]; exact Nat.le_refl _)]
      simp [hexW_length]
/-- A digit's letter, read. -/
def hexV (c : Int) : Int := if c ≤ 57 then c - 48 else c - 87
theorem hexD_range (d : Nat) (h : d < 16) : (48 ≤ hexD d ∧ hexD d ≤ 57 ∧ hexV (hexD d) = d) ∨ (97 ≤ hexD d ∧ hexD d ≤ 102 ∧ hexV (hexD d) = d) := by
  unfold hexD hexV
  split
  · left; refine ⟨by omega, by omega, ?_⟩; rw [if_pos (by omega)]; omega
  · right; refine ⟨by omega, by omega, ?_⟩; rw [if_neg (by omega)]; omega
/-- The first j digits' number. -/
theorem hex_step (u j : Nat) (h : j < 16) : u / 16 ^ (16 - (j + 1)) = 16 * (u / 16 ^ (16 - j)) + u / 16 ^ (16 - 1 - j) % 16 := by
  have e1 : 16 - j = (16 - (j + 1)) + 1 := by omega
  have e2 : 16 - 1 - j = 16 - (j + 1) := by omega
  rw [e2, e1, Nat.pow_succ, ← Nat.div_div_eq_div_mul]
  omega
end Go.Proofs.YtobbfenkdnaanaaGreatDoor

namespace Go.Proofs.YtobbfenkdnaanaaGreatDoor
open Go.RowKit

/-- The letters of the digits. -/
abbrev digs : ByteArray := ⟨#[48, 49, 50, 51, 52, 53, 54, 55, 56, 57, 97, 98, 99, 100, 101, 102, 103, 104, 105, 106, 107, 108, 109, 110, 111, 112, 113, 114, 115, 116, 117, 118, 119, 120, 121, 122]⟩
theorem digs_lt (d : Fin 16) : d.val < digs.size := Nat.lt_of_lt_of_le d.isLt (by decide)
theorem hex_all : ∀ d : Fin 16, ((digs[d.val]'(digs_lt d)).toNat : Int) = hexD d.val := by decide
theorem hex_at (u : Nat) (h : u < 16) (h' : u < digs.size) : ((digs[u]'h').toNat : Int) = hexD u := hex_all ⟨u, h⟩
/-- What the table of trailing zeros says of 16. -/
def Ctz (w : World) : Prop := w.cell? ⟨14, 15, none⟩ = some (.int .u8 4)

set_option maxRecDepth 100000 in
theorem ctz_calls (w : World) (h : Ctz w) : Calls Tryz.prog 273 #[.int .u64 16] w fun e w' => e = .returned (.int .i64 4) ∧ w' = w := by
  unfold Ctz at h
  have n0 : IntKind.u64.wrap (-16) = 18446744073709551600 := by decide
  have n1 : bits BinOp.and IntKind.u64 16 18446744073709551600 = 16 := by decide
  have n2 : IntKind.u64.wrap (16 * 285870213051353865) = 4573923408821661840 := by decide
  go_enter Tryz.func273, Tryz.ntmps273
  go_wp2_with (go_at_call 298; go_in)
  go_ret
  exact ⟨rfl, rfl⟩

/-- The row of the letters: those from place j on are written. -/
structure Row (w0 : World) (j : Nat) (acc : List Int) (w : World) : Prop where
  below : Below w0.heap.size w0 w
  size : w0.heap.size < w.heap.size
  cell : ∀ k, k < 65 → ∃ v, w.cell? ⟨w0.heap.size, k, none⟩ = some v
  frz : ∀ k, k < 65 → w.frozen? ⟨w0.heap.size, k, none⟩ = false
  held : ∀ k, k < acc.length → w.cell? ⟨w0.heap.size, j + k, none⟩ = some (.int .u8 (acc.getD k 0))
theorem row_start (w : World) : Row w 65 [] (w.alloc (.cells Tryz.zeroCells297 297)) where
  below := (Below.refl w.heap.size w).alloc (Nat.le_refl _) _
  size := by simp
  cell := fun k hk => by
    have h65 : Tryz.zeroCells297.size = 65 := by decide
    exact ⟨Tryz.zeroCells297[k]'(by omega), by simp [go_sem, h65, hk]⟩
  frz := fun k hk => by simp [go_sem]
  held := fun k hk => by simp at hk

theorem slice_eq (N j : Nat) (hj : j ≤ 64) (w : World) : (Instr.sliceAt 297 (.pointer (some ⟨N, 0, none⟩)) (some (.int .i64 (j : Int))) none none).run Tryz.prog w = .ok (.slice (some ⟨N, j, none⟩) (65 - j) (65 - j)) w := by
  have hal : Tryz.prog.arrayLen 297 = 65 := by simp [Program.arrayLen, Tryz.underlying297]
  have hel : Tryz.prog.elem 297 = 5 := by simp [Program.elem, Tryz.underlying297]
  rw [run_sliceAt_array_l w 297 ⟨N, 0, none⟩ (by rw [hal, hel]; exact Tryz.underlying297) .i64 (j : Int) (by omega) (by rw [hal]; omega)]
  rw [hal, hel, Tryz.sizeOf5]
  have hne : ¬ (65 = j) := by omega
  simp [slicedAt, Addr.add, Result.andThen, hne]
  exact fun h => h.symm
/-- The row read as a text. -/
theorem row_text {w0 w : World} {j : Nat} {acc : List Int} (hr : Row w0 j acc w) (hl : acc.length = 65 - j) (cap : Nat) :
    (convert 62 9 (.slice (some ⟨w0.heap.size, j, none⟩) (65 - j) cap)).run Tryz.prog w = .ok (.string (strOfNums acc)) w :=
  run_convert_bytes_arg (P := Tryz.prog) w 62 5 Tryz.underlying62 Tryz.underlying5 w0.heap.size j (65 - j) cap acc hl (fun i hi => hr.held i (by omega)) 9 Tryz.underlying9
/-- One letter more. -/
theorem Row.put {w0 w : World} {j : Nat} {acc : List Int} (hr : Row w0 (j + 1) acc w) (hj : j < 65) (d : Int) (hl : j + 1 + acc.length ≤ 65) : Row w0 j (d :: acc) (w.setCell ⟨w0.heap.size, j, none⟩ (.int .u8 d)) where
  below := hr.below.setCell (p := ⟨w0.heap.size, j, none⟩) (Nat.le_refl _) _
  size := by have := hr.size; simpa [World.setCell] using this
  cell := fun k hk => by
    by_cases e : k = j
    · subst e; obtain ⟨v, hv⟩ := hr.cell k hk; exact ⟨.int .u8 d, by simp [go_sem, hv]⟩
    · obtain ⟨v, hv⟩ := hr.cell k hk; exact ⟨v, by simp [go_sem, hv, e]⟩
  frz := fun k hk => by have := hr.frz k hk; simp [go_sem, this]
  held := fun k hk => by
    rcases k with _ | k
    · obtain ⟨v, hv⟩ := hr.cell j hj; simp [go_sem, hv]
    · have := hr.held k (by simpa using hk)
      rw [show j + (k + 1) = j + 1 + k by omega]
      simp [go_sem, this]

set_option maxRecDepth 100000 in
theorem bits_calls (c : Nat) (hc : c < 18446744073709551616) (w : World) (h : Ctz w) (h15 : 15 ≤ w.heap.size) :
    Calls Tryz.prog 218 #[.slice none 0 0, .int .u64 (c : Int), .int .i64 16, .bool false, .bool false] w fun e w' => e = .returned (.tuple #[.slice none 0 0, .string (strOfNums (hexL c))]) ∧ Below w.heap.size w w' := by
  have n0 : bits BinOp.and IntKind.i64 16 15 = 0 := by decide
  have H := Aside0.mk h; clear h
  have k1 := (Below.refl w.heap.size w).alloc (Nat.le_refl _) (.cells Tryz.zeroCells297 297)
  go_enter Tryz.func218, Tryz.ntmps218
  go_wp2_with (first | (go_at_call 272; go_in) | (go_at_call 273; refine (ctz_calls _ (cell_below k1 H.out)).mono ?_; rintro e w1 ⟨rfl, rfl⟩))
  obtain ⟨wo, hwo⟩ : ∃ wo : World, wo = w := ⟨_, rfl⟩
  subst hwo
  go_loopg [1, 13] 16 (fun kq v1 v13 w' => ∃ (u j : Nat) (acc : List Int), v1 = .int .u64 (u : Int) ∧ v13 = .int .i64 ((j : Int) + 1) ∧ u < 16 ^ kq ∧ u < 18446744073709551616 ∧ kq ≤ 16 ∧ 1 ≤ kq ∧ j + 16 = 64 + kq ∧ acc.length + kq = 16 ∧ Aside0 (hexR (kq - 1) u acc = hexL c) ∧ Aside0 (Row wo (j + 1) acc w'))
  case atStart => exact ⟨c, 64, [], rfl, rfl, hc, hc, by omega, by omega, by omega, by simp, ⟨rfl⟩, ⟨row_start wo⟩⟩
  case round =>
    obtain ⟨u, j, acc, rfl, rfl, hu, hu2, hk9, hk1, hj, hal, HA, HR⟩ := hrel
    obtain ⟨g1, rfl⟩ : ∃ m, gk = m + 1 := ⟨gk - 1, by omega⟩
    have HU := Aside0.mk hu; clear hu
    obtain ⟨old, cm⟩ := HR.out.cell j (by omega)
    have fm := HR.out.frz j (by omega)
    by_cases hlt : u < 16
    · have hxi : ∀ h : u < digs.size, ((digs[u]'h).toNat : Int) = hexD u := fun h => hex_at u hlt h
      have hput := HR.out.put (by omega) (hexD u) (by omega)
      have sl := slice_eq wo.heap.size j (by omega)
      have cv := row_text hput (by simp; omega)
      have HF := Aside0.mk (show hexD u :: acc = hexL c by rw [← HA.out]; rcases g1 with _ | g <;> simp [hexR, hlt])
      have HP := Aside0.mk hput.below
      clear hput
      go_wp2
      refine bodyPost_ret (v := .tuple #[.slice none 0 0, .string (strOfNums (hexD u :: acc))]) (by simp [results, Tryz.results218, go_sem]) rfl ⟨by rw [HF.out], HP.out⟩
    · have hmod : u % 16 < 16 := by omega
      have hxi : ∀ h : u % 16 < digs.size, ((digs[u % 16]'h).toNat : Int) = hexD (u % 16) := fun h => hex_at (u % 16) hmod h
      have hb : bits BinOp.and IntKind.u64 (u : Int) 15 = ((u % 16 : Nat) : Int) := by
        have := u64_and_nat u 15 (by omega) (by omega)
        rw [show u &&& 15 = u % 16 from Nat.and_two_pow_sub_one_eq_mod u 4] at this
        exact this
      have g2 := HU.out
      obtain ⟨g0, rfl⟩ : ∃ m, g1 = m + 1 := ⟨g1 - 1, by
        rcases g1 with _ | m
        · simp at g2; omega
        · rfl⟩
      obtain ⟨m, rfl⟩ : ∃ m, j = m + 1 := ⟨j - 1, by omega⟩
      have hq : u / 16 < 16 ^ (g0 + 1) := by
        rw [Nat.pow_succ] at g2
        exact Nat.div_lt_of_lt_mul (by omega)
      have hput := HR.out.put (by omega) (hexD (u % 16)) (by omega)
      have HF := Aside0.mk (show hexR g0 (u / 16) (hexD (u % 16) :: acc) = hexL c by rw [← HA.out]; simp [hexR, hlt])
      have HP := Aside0.mk hput
      have HQ := Aside0.mk hq
      clear hput g2 hq
      go_wp2
      go_roundg (g0 + 1)
      case measure => omega
      case rel => exact ⟨u / 16, m, hexD (u % 16) :: acc, by go_num, by go_num, HQ.out, by omega, by omega, by omega, by omega, by simp; omega, HF, HP⟩

/-- A number's text at base 16. -/
def hexT (c : Nat) : ByteArray := strOfNums (hexL c)

set_option maxRecDepth 100000 in
theorem fmt16_calls (c : Nat) (hc : c < 18446744073709551616) (w : World) (h : Ctz w) (h15 : 15 ≤ w.heap.size) :
    Calls Tryz.prog 103 #[.int .u64 (c : Int), .int .i64 16] w fun e w' => e = .returned (.string (hexT c)) ∧ Below w.heap.size w w' := by
  have H := Aside0.mk h; clear h
  go_enter Tryz.func103, Tryz.ntmps103
  go_wp2_with (go_at_call 164; go_in)
  refine (bits_calls c hc w H.out h15).mono ?_
  rintro e w1 ⟨rfl, hb⟩
  go_wp2
  go_ret
  exact ⟨rfl, hb⟩
end Go.Proofs.YtobbfenkdnaanaaGreatDoor

namespace Go.Proofs.YtobbfenkdnaanaaGreatDoor
open Go.RowKit Go.Proofs

/-- The sixteen letters. -/
abbrev hexs : ByteArray := ⟨#[48, 49, 50, 51, 52, 53, 54, 55, 56, 57, 97, 98, 99, 100, 101, 102]⟩
theorem hexs_lt (d : Fin 16) : d.val < hexs.size := d.isLt
theorem hexs_all : ∀ d : Fin 16, ((hexs[d.val]'(hexs_lt d)).toNat : Int) = hexD d.val := by decide
theorem hexs_at (u : Nat) (h : u < 16) (h' : u < hexs.size) : ((hexs[u]'h').toNat : Int) = hexD u := hexs_all ⟨u, h⟩
/-- A row of sixteen cells, the last i of them written. -/
structure HRow (w0 : World) (u i : Nat) (w : World) : Prop where
  below : Below w0.heap.size w0 w
  cell : ∀ k, k < 16 → ∃ v, w.cell? ⟨w0.heap.size, k, none⟩ = some v
  frz : ∀ k, k < 16 → w.frozen? ⟨w0.heap.size, k, none⟩ = false
  held : ∀ k, 16 - i ≤ k → k < 16 → w.cell? ⟨w0.heap.size, k, none⟩ = some (.int .u8 (hexD (u / 16 ^ (15 - k) % 16)))
theorem HRow.start (w : World) (u : Nat) (Z : Array Value) (hZ : Z.size = 16) : HRow w u 0 (w.alloc (.cells Z 5)) where
  below := (Below.refl w.heap.size w).alloc (Nat.le_refl _) _
  cell := fun k hk => ⟨Z[k]'(by omega), by simp [go_sem, hZ, hk]⟩
  frz := fun k hk => by simp [go_sem]
  held := fun k h1 h2 => by omega
theorem HRow.put {w0 w : World} {u i : Nat} (h : HRow w0 u i w) (hi : i < 16) : HRow w0 u (i + 1) (w.setCell ⟨w0.heap.size, 15 - i, none⟩ (.int .u8 (hexD (u / 16 ^ i % 16)))) where
  below := h.below.setCell (p := ⟨w0.heap.size, 15 - i, none⟩) (Nat.le_refl _) _
  cell := fun k hk => by
    by_cases e : k = 15 - i
    · subst e; obtain ⟨v, hv⟩ := h.cell _ hk; exact ⟨.int .u8 (hexD (u / 16 ^ i % 16)), by simp [go_sem, hv]⟩
    · obtain ⟨v, hv⟩ := h.cell k hk; exact ⟨v, by simp [go_sem, hv, e]⟩
  frz := fun k hk => by have := h.frz k hk; simp [go_sem, this]
  held := fun k h1 h2 => by
    by_cases e : k = 15 - i
    · subst e
      obtain ⟨v, hv⟩ := h.cell _ h2
      have e2 : 15 - (15 - i) = i := by omega
      simp [go_sem, hv, e2]
    · have := h.held k (by omega) h2
      simp [go_sem, this, e]

set_option maxHeartbeats 1600000 in
set_option maxRecDepth 100000 in
theorem hex16_calls (u : Nat) (hu : u < 18446744073709551616) (w : World) :
    Calls Tryz.prog 155 #[.int .u64 (u : Int)] w fun e w' => e = .returned (.string (strOfNums (hexW 16 u))) ∧ Below w.heap.size w w' := by
  obtain ⟨i0, hi, hz0, hz1, hz2⟩ := info_parts infoB
  have hmk := run_makeSlice (P := Tryz.prog) w 62 5 i0 (.int .u8 0) Tryz.underlying62 hi hz0 .i64 .i64 16 16 (by omega) (by omega) (by rw [hz1]; decide) (by rw [hz2]; decide) (by omega)
  have hZ : (madeCells (Value.int .u8 0).cells ((16 : Int).toNat * i0.size)).size = 16 := by rw [size_madeCells, hz1]; rfl
  obtain ⟨Z, hZe⟩ : ∃ Z, madeCells (Value.int .u8 0).cells ((16 : Int).toNat * i0.size) = Z := ⟨_, rfl⟩
  rw [hZe] at hmk hZ
  clear hZe
  have HR0 := Aside0.mk (HRow.start w u Z hZ)
  have HUU := Aside0.mk hu
  clear hZ hu hi hz0 hz1 hz2
  go_enter Tryz.func155, Tryz.ntmps155
  go_wp2_with fail
  clear hmk
  obtain ⟨wo, hwo⟩ : ∃ wo : World, wo = w := ⟨_, rfl⟩
  subst hwo
  go_loopg [8] 17 (fun kq v8 w' => ∃ i : Nat, v8 = .int .i64 (i : Int) ∧ i + kq = 17 ∧ i ≤ 16 ∧ Aside0 (HRow wo u i w'))
  case atStart => exact ⟨0, rfl, rfl, by omega, HR0⟩
  case round =>
    obtain ⟨i, rfl, hik, hile, HR⟩ := hrel
    by_cases hlt : i < 16
    · obtain ⟨g1, rfl⟩ : ∃ m, gk = m + 1 := ⟨gk - 1, by omega⟩
      obtain ⟨old, cm⟩ := HR.out.cell (15 - i) (by omega)
      have fm := HR.out.frz (15 - i) (by omega)
      have hput := HR.out.put hlt
      have hd : u / 16 ^ i % 16 < 16 := Nat.mod_lt _ (by decide)
      obtain ⟨d, hde⟩ : ∃ d, u / 16 ^ i % 16 = d := ⟨_, rfl⟩
      rw [hde] at hput hd
      have hxi : ∀ h : d < hexs.size, ((hexs[d]'h).toNat : Int) = hexD d := fun h => hexs_at d hd h
      have hb : bits BinOp.and IntKind.u64 ((u : Int) / 2 ^ (4 * i)) 15 = (d : Int) := by
        have h1 := u64_and_nat (u / 2 ^ (4 * i)) 15 (Nat.lt_of_le_of_lt (Nat.div_le_self _ _) HUU.out) (by omega)
        rw [show (u / 2 ^ (4 * i)) &&& 15 = (u / 2 ^ (4 * i)) % 16 from Nat.and_two_pow_sub_one_eq_mod _ 4] at h1
        rw [← hde, show 16 ^ i = 2 ^ (4 * i) by rw [Nat.pow_mul], ← h1]
        congr 1
      have HP := Aside0.mk hput
      clear hput
      go_wp2
      go_roundg g1
      case measure => omega
      case rel => exact ⟨i + 1, by go_num, by omega, by omega, HP⟩
    · obtain rfl : i = 16 := by omega
      have cv := run_convert_bytes_arg (P := Tryz.prog) wr 62 5 Tryz.underlying62 Tryz.underlying5 wo.heap.size 0 16 16 (hexW 16 u) (hexW_length 16 u) (fun j hj => by
        have h1 := HR.out.held j (by omega) hj
        have h2 := hexW_at 16 u j hj
        rw [Nat.zero_add, h1]
        congr 2
        rw [← h2]
        simp [hj, hexW_length]) 9 Tryz.underlying9
      have HB := Aside0.mk HR.out.below
      go_wp2
      go_ret
      exact ⟨rfl, HB.out⟩
theorem fpString_calls (u : Nat) (hu : u < 18446744073709551616) (w : World) :
    Calls Tryz.prog 97 #[.int .u64 (u : Int)] w fun e w' => e = .returned (.string (strOfNums (hexW 16 u))) ∧ Below w.heap.size w w' := by
  go_enter Tryz.func97, Tryz.ntmps97
  go_wp2_with fail
  refine (hex16_calls u hu _).mono ?_
  rintro e w1 ⟨rfl, hb⟩
  have HB := Aside0.mk hb; clear hb
  go_wp2
  go_ret
  exact ⟨rfl, HB.out⟩
end Go.Proofs.YtobbfenkdnaanaaGreatDoor
