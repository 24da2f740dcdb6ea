/- The reference's Escape, walked. -/
import Derived.Test.YtaajhionmdjhjaaDoorEscB
import Derived.Laws.Runes
import Derived.Laws.Concat
set_option linter.unusedVariables false
set_option linter.unusedSimpArgs false
namespace Go.Proofs.YtaajhionmdjhjaaDoor
open Go.RowKit

/-- The iterator in a round of the reference. -/
structure TellEsc (wo : World) (N k : Nat) (s : ByteArray) (f pos : Nat) (acc : List UInt8) (wr : World) : Prop where
  it : wr.heap[N]? = some (.stringIter s pos)
  lt : wo.heap.size ≤ N
  below : Below wo.heap.size wo wr
  eq : esc k s f pos acc = escT k s
  fuel : s.size < pos + f
  len : acc.length + 16 * f ≤ 3 + 16 * (s.size + 1)

theorem TellEsc.next {wo wr : World} {N k : Nat} {s : ByteArray} {f pos : Nat} {acc : List UInt8} (h : TellEsc wo N k s (f + 1) pos acc wr) (hp : pos < s.size) :
    ∃ (c : Nat) (W1 : World), c ≤ 1114111 ∧ (∀ ty, (Instr.next (.pointer (some ⟨N, 0, none⟩)) true ty).run Tryd.prog wr = .ok (.tuple #[.bool true, .int .i64 (pos : Int), .int .i32 (c : Int)]) W1) ∧
      Below wo.heap.size wo W1 ∧ N < W1.heap.size ∧ (∀ W2, Below W1.heap.size W1 W2 → ∃ pos', TellEsc wo N k s f pos' (acc ++ piece k (c : Int) pos) W2) := by
  have hit2 := Lib.iterAt_heap wr N s pos (pos + (Utf8.decode s pos).2) h.it
  have hb2 := Lib.below_iterAt h.below (k := N) h.lt s (pos + (Utf8.decode s pos).2)
  have hlt : N < (wr.iterAt N s (pos + (Utf8.decode s pos).2)).heap.size := (Array.getElem?_eq_some_iff.1 hit2).1
  refine ⟨(Utf8.decode s pos).1, wr.iterAt N s (pos + (Utf8.decode s pos).2), rune_ok s pos, fun ty => Lib.run_next_any_at wr N s pos ty h.it hp, hb2, hlt, ?_⟩
  intro W2 hw
  have hwd := Lib.width_pos s pos
  refine ⟨pos + (Utf8.decode s pos).2, (hw.block N hlt).trans hit2, h.lt, below_step hb2 hw, ?_, by have := h.fuel; omega, ?_⟩
  · rw [← h.eq]; simp [esc, hp]
  · have h1 := piece_len k ((Utf8.decode s pos).1 : Int) pos
    have h2 := h.len
    simp only [List.length_append]
    omega
theorem TellEsc.stop {wo wr : World} {N k : Nat} {s : ByteArray} {f pos : Nat} {acc : List UInt8} (h : TellEsc wo N k s f pos acc wr) (hp : ¬ pos < s.size) :
    acc = escT k s ∧ ∀ ty, (Instr.next (.pointer (some ⟨N, 0, none⟩)) true ty).run Tryd.prog wr = .ok (.tuple #[.bool false]) wr :=
  ⟨by rw [← h.eq, esc_end _ _ _ _ _ hp], fun ty => Lib.run_next_end_at wr N s pos ty h.it hp⟩
theorem TellEsc.start (wo w1 : World) (k : Nat) (s : ByteArray) (hbl : Below wo.heap.size wo w1) : TellEsc wo w1.heap.size k s (s.size + 1) 0 (escHead k) (w1.iter s 0) where
  it := World.iter_heap w1 s 0
  lt := hbl.size
  below := hbl.alloc hbl.size _
  eq := rfl
  fuel := by omega
  len := by unfold escHead; split <;> simp

theorem encode_one (c : Nat) (h : c < 128) : Utf8.encode (c : Int) = ⟨#[UInt8.ofNat c]⟩ := by
  have h2 : ((c : Int)).toNat = c := Int.toNat_natCast c
  have hv : Utf8.valid (c : Int) = true := by unfold Utf8.valid; simp; omega
  simp [Utf8.encode, hv, h, h2]
theorem add_eq (x y : List UInt8) (hx : x.length ≤ 100000) (hy : y.length ≤ 100000) (w : World) : (Op.stringOp .add ⟨x.toArray⟩ ⟨y.toArray⟩).run Tryd.prog w = .ok (.string ⟨(x ++ y).toArray⟩) w :=
  run_string_add_lists w x y (by omega) (by omega)

theorem pos_zero (pos : Nat) : ((pos : Int) == 0) = decide (pos = 0) := by
  by_cases h : pos = 0
  · subst h; rfl
  · rw [decide_eq_false h]; exact beq_eq_false_iff_ne.2 (by omega)

set_option maxHeartbeats 4000000 in
set_option maxRecDepth 100000 in
theorem specEsc1_calls (s : ByteArray) (hs : s.size ≤ 200) (h0 : s.size ≠ 0) (hl : ¬ Legal s true) (w : World) (hC : Ctz w) (h7 : 7 ≤ w.heap.size) :
    Calls Tryd.prog 29 #[.string s, .int .i64 1] w fun e w' => e = .returned (.string ⟨(escT 1 s).toArray⟩) ∧ Below w.heap.size w w' := by
  have hz : s.toList.isEmpty = false := by rw [empty_of s]; exact decide_eq_false h0
  have HL := Aside0.mk (legB_false hl)
  clear hl
  have HC := Aside0.mk hC
  clear h0 hC
  obtain ⟨wo, hwo⟩ : ∃ wo : World, wo = w := ⟨_, rfl⟩
  subst hwo
  go_enter Tryd.func29, Tryd.ntmps29
  go_wp2_with (go_at_call 27; refine (legacy_true s (by omega) _).mono ?_; rintro e w1 ⟨rfl, hb⟩; rw [HL.out])
  have HST := Aside0.mk (TellEsc.start wo w1 1 s hb)
  clear hb
  obtain ⟨N, hN⟩ : ∃ N, w1.heap.size = N := ⟨_, rfl⟩
  rw [hN] at HST ⊢
  generalize w1.iter s 0 = wi at HST ⊢
  clear hN
  go_loopg [5] (s.size + 1) (fun gk v5 wr => ∃ (pos : Nat) (acc : List UInt8), v5 = .string ⟨acc.toArray⟩ ∧ Aside0 (TellEsc wo N 1 s gk pos acc wr))
  case atStart => exact ⟨0, escHead 1, rfl, HST⟩
  case round =>
    obtain ⟨pos, acc, rfl, H⟩ := hrel
    by_cases hp : pos < s.size
    · obtain ⟨f, rfl⟩ : ∃ m, gk = m + 1 := ⟨gk - 1, by
        have := H.out.fuel
        rcases gk with _ | m
        · omega
        · rfl⟩
      obtain ⟨c, W1, hc, hnx, hbl, hsz, hgo⟩ := H.out.next hp
      have HG := Aside0.mk hgo
      have HL2 := Aside0.mk H.out.len
      have HBL := Aside0.mk hbl
      have e0 : ((pos : Int) == 0) = decide (pos = 0) := pos_zero pos
      clear hgo hbl
      by_cases hok : LegOk (c : Int) pos true
      · have HO := Aside0.mk hok
        have hd := decide_eq_true hok
        have hlt := legOk_lt hok
        clear hok
        obtain ⟨x, hx⟩ : ∃ x, UInt8.ofNat c = x := ⟨_, rfl⟩
        have he : Utf8.encode (c : Int) = ⟨#[x]⟩ := by rw [encode_one c (by omega), hx]
        have hone : oneB (c : Int) = [x] := by rw [← hx]; rfl
        have HONE := Aside0.mk hone
        clear hx hone
        have ad : ∀ w, (Op.stringOp .add ⟨acc.toArray⟩ ⟨#[x]⟩).run Tryd.prog w = .ok (.string ⟨(acc ++ [x]).toArray⟩) w := fun w => add_eq acc [x] (by have := HL2.out; omega) (by simp) w
        go_wp2_with (go_at_call 65; refine (plain_calls _ pos (by omega) (by omega) (by omega) _).mono ?_; rintro e w2 ⟨rfl, rfl⟩; rw [hd])
        obtain ⟨pos', hE⟩ := HG.out _ (Below.refl _ _)
        rw [piece1_ok HO.out, HONE.out] at hE
        have HE := Aside0.mk hE
        clear hE
        go_wp2
        go_roundg f
        case measure => omega
        case rel => exact ⟨pos', _, rfl, HE⟩
      · have HO := Aside0.mk hok
        have hd := decide_eq_false hok
        clear hok
        have ad : ∀ w, (Op.stringOp .add ⟨acc.toArray⟩ ⟨#[95]⟩).run Tryd.prog w = .ok (.string ⟨(acc ++ [95]).toArray⟩) w := fun w => add_eq acc [95] (by have := HL2.out; omega) (by simp) w
        go_wp2_with (go_at_call 65; refine (plain_calls _ pos (by omega) (by omega) (by omega) _).mono ?_; rintro e w2 ⟨rfl, rfl⟩; rw [hd])
        obtain ⟨pos', hE⟩ := HG.out _ (Below.refl _ _)
        rw [piece1_no HO.out] at hE
        have HE := Aside0.mk hE
        clear hE
        go_wp2
        go_roundg f
        case measure => omega
        case rel => exact ⟨pos', _, rfl, HE⟩
    · obtain ⟨hacc, hnx⟩ := H.out.stop hp
      have HA := Aside0.mk hacc
      clear hacc
      go_wp2
      go_ret
      exact ⟨by rw [← HA.out]; rfl, H.out.below⟩
set_option maxHeartbeats 4000000 in
set_option maxRecDepth 100000 in
theorem specEsc2_calls (s : ByteArray) (hs : s.size ≤ 200) (h0 : s.size ≠ 0) (w : World) (hC : Ctz w) (h7 : 7 ≤ w.heap.size) :
    Calls Tryd.prog 29 #[.string s, .int .i64 2] w fun e w' => e = .returned (.string ⟨(escT 2 s).toArray⟩) ∧ Below w.heap.size w w' := by
  have hz : s.toList.isEmpty = false := by rw [empty_of s]; exact decide_eq_false h0
  have HC := Aside0.mk hC
  clear h0 hC
  obtain ⟨wo, hwo⟩ : ∃ wo : World, wo = w := ⟨_, rfl⟩
  subst hwo
  go_enter Tryd.func29, Tryd.ntmps29
  go_wp2_with fail
  have HST := Aside0.mk (TellEsc.start wo wo 2 s (Below.refl _ _))
  obtain ⟨N, hN⟩ : ∃ N, wo.heap.size = N := ⟨_, rfl⟩
  rw [hN] at HST
  rw [hN]
  generalize wo.iter s 0 = wi at HST ⊢
  clear hN
  go_loopg [5] (s.size + 1) (fun gk v5 wr => ∃ (pos : Nat) (acc : List UInt8), v5 = .string ⟨acc.toArray⟩ ∧ Aside0 (TellEsc wo N 2 s gk pos acc wr))
  case atStart => exact ⟨0, escHead 2, rfl, HST⟩
  case round =>
    obtain ⟨pos, acc, rfl, H⟩ := hrel
    by_cases hp : pos < s.size
    · obtain ⟨f, rfl⟩ : ∃ m, gk = m + 1 := ⟨gk - 1, by
        have := H.out.fuel
        rcases gk with _ | m
        · omega
        · rfl⟩
      obtain ⟨c, W1, hc, hnx, hbl, hsz, hgo⟩ := H.out.next hp
      have HG := Aside0.mk hgo
      have HL2 := Aside0.mk H.out.len
      have HBL := Aside0.mk hbl
      have e0 : ((pos : Int) == 0) = decide (pos = 0) := pos_zero pos
      clear hgo hbl
      by_cases h95 : c = 95
      · subst h95
        have hd : decide (LegOk ((95 : Nat) : Int) pos true) = true := decide_eq_true (.inr (.inr (.inl rfl)))
        have ad : ∀ w, (Op.stringOp .add ⟨acc.toArray⟩ ⟨#[95, 95]⟩).run Tryd.prog w = .ok (.string ⟨(acc ++ [95, 95]).toArray⟩) w := fun w => add_eq acc [95, 95] (by have := HL2.out; omega) (by simp) w
        go_wp2_with (go_at_call 65; refine (plain_calls _ pos (by omega) (by omega) (by omega) _).mono ?_; rintro e w2 ⟨rfl, rfl⟩; simp only [hd])
        obtain ⟨pos', hE⟩ := HG.out _ (Below.refl _ _)
        rw [show ((95 : Nat) : Int) = 95 from rfl, piece_us (by decide)] at hE
        have HE := Aside0.mk hE
        clear hE
        go_wp2
        go_roundg f
        case measure => omega
        case rel => exact ⟨pos', _, rfl, HE⟩
      · have a95 : ((c : Int) == 95) = false := by simp; omega
        have H95 := Aside0.mk (show (c : Int) ≠ 95 by omega)
        clear h95
        by_cases h46 : c = 46
        · subst h46
          clear a95
          have hd : decide (LegOk ((46 : Nat) : Int) pos true) = false := decide_eq_false (by unfold LegOk; omega)
          have ad : ∀ w, (Op.stringOp .add ⟨acc.toArray⟩ ⟨#[95, 100, 111, 116, 95]⟩).run Tryd.prog w = .ok (.string ⟨(acc ++ [95, 100, 111, 116, 95]).toArray⟩) w := fun w => add_eq acc [95, 100, 111, 116, 95] (by have := HL2.out; omega) (by simp) w
          go_wp2_with (go_at_call 65; refine (plain_calls _ pos (by omega) (by omega) (by omega) _).mono ?_; rintro e w2 ⟨rfl, rfl⟩; simp only [hd])
          obtain ⟨pos', hE⟩ := HG.out _ (Below.refl _ _)
          rw [show ((46 : Nat) : Int) = 46 from rfl, piece_dot] at hE
          have HE := Aside0.mk hE
          clear hE
          go_wp2
          go_roundg f
          case measure => omega
          case rel => exact ⟨pos', _, rfl, HE⟩
        · have a46 : ((c : Int) == 46) = false := by simp; omega
          have H46 := Aside0.mk (show (c : Int) ≠ 46 by omega)
          clear h46
          by_cases hok : LegOk (c : Int) pos true
          · have HO := Aside0.mk hok
            have hd := decide_eq_true hok
            have hlt := legOk_lt hok
            clear hok
            obtain ⟨x, hx⟩ : ∃ x, UInt8.ofNat c = x := ⟨_, rfl⟩
            have he : Utf8.encode (c : Int) = ⟨#[x]⟩ := by rw [encode_one c (by omega), hx]
            have hone : oneB (c : Int) = [x] := by rw [← hx]; rfl
            have HONE := Aside0.mk hone
            clear hx hone
            have ad : ∀ w, (Op.stringOp .add ⟨acc.toArray⟩ ⟨#[x]⟩).run Tryd.prog w = .ok (.string ⟨(acc ++ [x]).toArray⟩) w := fun w => add_eq acc [x] (by have := HL2.out; omega) (by simp) w
            go_wp2_with (go_at_call 65; refine (plain_calls _ pos (by omega) (by omega) (by omega) _).mono ?_; rintro e w2 ⟨rfl, rfl⟩; rw [hd])
            obtain ⟨pos', hE⟩ := HG.out _ (Below.refl _ _)
            rw [piece_leg (by decide) H95.out H46.out HO.out, HONE.out] at hE
            have HE := Aside0.mk hE
            clear hE
            go_wp2
            go_roundg f
            case measure => omega
            case rel => exact ⟨pos', _, rfl, HE⟩
          · have HO := Aside0.mk hok
            have hd := decide_eq_false hok
            clear hok
            have ad : ∀ w, (Op.stringOp .add ⟨acc.toArray⟩ ⟨#[95, 95]⟩).run Tryd.prog w = .ok (.string ⟨(acc ++ [95, 95]).toArray⟩) w := fun w => add_eq acc [95, 95] (by have := HL2.out; omega) (by simp) w
            go_wp2_with (go_at_call 65; refine (plain_calls _ pos (by omega) (by omega) (by omega) _).mono ?_; rintro e w2 ⟨rfl, rfl⟩; rw [hd])
            obtain ⟨pos', hE⟩ := HG.out _ (Below.refl _ _)
            rw [piece_no2 H95.out H46.out HO.out] at hE
            have HE := Aside0.mk hE
            clear hE
            go_wp2
            go_roundg f
            case measure => omega
            case rel => exact ⟨pos', _, rfl, HE⟩
    · obtain ⟨hacc, hnx⟩ := H.out.stop hp
      have HA := Aside0.mk hacc
      clear hacc
      go_wp2
      go_ret
      exact ⟨by rw [← HA.out]; rfl, H.out.below⟩
set_option maxHeartbeats 4000000 in
set_option maxRecDepth 100000 in
theorem specEsc3_calls (s : ByteArray) (hs : s.size ≤ 200) (h0 : s.size ≠ 0) (hl : ¬ Legal s true) (w : World) (hC : Ctz w) (h7 : 7 ≤ w.heap.size) :
    Calls Tryd.prog 29 #[.string s, .int .i64 3] w fun e w' => e = .returned (.string ⟨(escT 3 s).toArray⟩) ∧ Below w.heap.size w w' := by
  have hz : s.toList.isEmpty = false := by rw [empty_of s]; exact decide_eq_false h0
  have HL := Aside0.mk (legB_false hl)
  clear hl
  have HC := Aside0.mk hC
  clear h0 hC
  obtain ⟨wo, hwo⟩ : ∃ wo : World, wo = w := ⟨_, rfl⟩
  subst hwo
  go_enter Tryd.func29, Tryd.ntmps29
  go_wp2_with (go_at_call 27; refine (legacy_true s (by omega) _).mono ?_; rintro e w1 ⟨rfl, hb⟩; rw [HL.out])
  have HST := Aside0.mk (TellEsc.start wo w1 3 s hb)
  clear hb
  obtain ⟨N, hN⟩ : ∃ N, w1.heap.size = N := ⟨_, rfl⟩
  rw [hN] at HST ⊢
  generalize w1.iter s 0 = wi at HST ⊢
  clear hN
  go_loopg [5] (s.size + 1) (fun gk v5 wr => ∃ (pos : Nat) (acc : List UInt8), v5 = .string ⟨acc.toArray⟩ ∧ Aside0 (TellEsc wo N 3 s gk pos acc wr))
  case atStart => exact ⟨0, escHead 3, rfl, HST⟩
  case round =>
    obtain ⟨pos, acc, rfl, H⟩ := hrel
    by_cases hp : pos < s.size
    · obtain ⟨f, rfl⟩ : ∃ m, gk = m + 1 := ⟨gk - 1, by
        have := H.out.fuel
        rcases gk with _ | m
        · omega
        · rfl⟩
      obtain ⟨c, W1, hc, hnx, hbl, hsz, hgo⟩ := H.out.next hp
      have HG := Aside0.mk hgo
      have HL2 := Aside0.mk H.out.len
      have HBL := Aside0.mk hbl
      have e0 : ((pos : Int) == 0) = decide (pos = 0) := pos_zero pos
      clear hgo hbl
      by_cases h95 : c = 95
      · subst h95
        have hd : decide (LegOk ((95 : Nat) : Int) pos true) = true := decide_eq_true (.inr (.inr (.inl rfl)))
        have ad : ∀ w, (Op.stringOp .add ⟨acc.toArray⟩ ⟨#[95, 95]⟩).run Tryd.prog w = .ok (.string ⟨(acc ++ [95, 95]).toArray⟩) w := fun w => add_eq acc [95, 95] (by have := HL2.out; omega) (by simp) w
        go_wp2_with (go_at_call 65; refine (plain_calls _ pos (by omega) (by omega) (by omega) _).mono ?_; rintro e w2 ⟨rfl, rfl⟩; simp only [hd])
        obtain ⟨pos', hE⟩ := HG.out _ (Below.refl _ _)
        rw [show ((95 : Nat) : Int) = 95 from rfl, piece_us (by decide)] at hE
        have HE := Aside0.mk hE
        clear hE
        go_wp2
        go_roundg f
        case measure => omega
        case rel => exact ⟨pos', _, rfl, HE⟩
      · have a95 : ((c : Int) == 95) = false := by simp; omega
        have H95 := Aside0.mk (show (c : Int) ≠ 95 by omega)
        clear h95
        by_cases hok : LegOk (c : Int) pos true
        · have HO := Aside0.mk hok
          have hd := decide_eq_true hok
          have hlt := legOk_lt hok
          clear hok
          obtain ⟨x, hx⟩ : ∃ x, UInt8.ofNat c = x := ⟨_, rfl⟩
          have he : Utf8.encode (c : Int) = ⟨#[x]⟩ := by rw [encode_one c (by omega), hx]
          have hone : oneB (c : Int) = [x] := by rw [← hx]; rfl
          have HONE := Aside0.mk hone
          clear hx hone
          have ad : ∀ w, (Op.stringOp .add ⟨acc.toArray⟩ ⟨#[x]⟩).run Tryd.prog w = .ok (.string ⟨(acc ++ [x]).toArray⟩) w := fun w => add_eq acc [x] (by have := HL2.out; omega) (by simp) w
          go_wp2_with (go_at_call 65; refine (plain_calls _ pos (by omega) (by omega) (by omega) _).mono ?_; rintro e w2 ⟨rfl, rfl⟩; rw [hd])
          obtain ⟨pos', hE⟩ := HG.out _ (Below.refl _ _)
          rw [piece_leg (by decide) H95.out (leg_not46 HO.out) HO.out, HONE.out] at hE
          have HE := Aside0.mk hE
          clear hE
          go_wp2
          go_roundg f
          case measure => omega
          case rel => exact ⟨pos', _, rfl, HE⟩
        · have HO := Aside0.mk hok
          have hd := decide_eq_false hok
          clear hok
          obtain ⟨hl, hhl⟩ : ∃ hl, (hexT c).data.toList = hl := ⟨_, rfl⟩
          have hlen : hl.length ≤ 9 := by rw [← hhl, len_toList]; exact hexT_size c
          have hh : hexT c = ⟨hl.toArray⟩ := by rw [← hhl]
          have HHL := Aside0.mk hhl
          clear hhl
          obtain ⟨p2, hp2⟩ : ∃ p2, [95] ++ hl = p2 := ⟨_, rfl⟩
          obtain ⟨p3, hp3⟩ : ∃ p3, p2 ++ [95] = p3 := ⟨_, rfl⟩
          have l2 : p2.length ≤ 20 := by rw [← hp2]; simp; omega
          have l3 : p3.length ≤ 30 := by rw [← hp3]; simp; omega
          have a1 : ∀ w, (Op.stringOp .add ⟨#[95]⟩ ⟨hl.toArray⟩).run Tryd.prog w = .ok (.string ⟨p2.toArray⟩) w := fun w => by rw [← hp2]; exact add_eq [95] hl (by simp) (by omega) w
          have a2 : ∀ w, (Op.stringOp .add ⟨p2.toArray⟩ ⟨#[95]⟩).run Tryd.prog w = .ok (.string ⟨p3.toArray⟩) w := fun w => by rw [← hp3]; exact add_eq p2 [95] (by omega) (by simp) w
          have a3 : ∀ w, (Op.stringOp .add ⟨acc.toArray⟩ ⟨p3.toArray⟩).run Tryd.prog w = .ok (.string ⟨(acc ++ p3).toArray⟩) w := fun w => add_eq acc p3 (by have := HL2.out; omega) (by omega) w
          have HP := Aside0.mk (show [95] ++ (hexT ((c : Int)).toNat).data.toList ++ [95] = p3 by rw [Int.toNat_natCast, HHL.out, hp2, hp3])
          clear hp2 hp3 l2 l3 hlen
          go_wp2_with (first | (go_at_call 65; refine (plain_calls _ pos (by omega) (by omega) (by omega) _).mono ?_; rintro e w2 ⟨rfl, rfl⟩; rw [hd]) | (go_at_call 37; refine (hex_calls c hc _ (cell_below HBL.out HC.out) (Nat.le_trans h7 HBL.out.size)).mono ?_; rintro e Wh ⟨rfl, hbh⟩; rw [hh]))
          obtain ⟨pos', hE⟩ := HG.out _ (hbh)
          rw [piece_no3 H95.out HO.out, HP.out] at hE
          have HE := Aside0.mk hE
          clear hE
          go_wp2
          go_roundg f
          case measure => omega
          case rel => exact ⟨pos', _, rfl, HE⟩
    · obtain ⟨hacc, hnx⟩ := H.out.stop hp
      have HA := Aside0.mk hacc
      clear hacc
      go_wp2
      go_ret
      exact ⟨by rw [← HA.out]; rfl, H.out.below⟩
end Go.Proofs.YtaajhionmdjhjaaDoor
