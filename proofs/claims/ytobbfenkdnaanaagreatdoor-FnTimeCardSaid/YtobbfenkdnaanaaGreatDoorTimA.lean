/- The printing of a float by its shortest decimals: the small functions, by contract. -/
import Derived.Test.YtobbfenkdnaanaaGreatDoorDurB
import Derived.Test.YtobbfenkdnaanaaGreatDoorFlt
import Derived.Test.YtobbfenkdnaanaaGreatDoorWords
import Derived.Laws.Bits64b
import Derived.BigQuiet
import Derived.Test.YtobbfenkdnaanaaGreatDoorTimQ
set_option linter.unusedVariables false
set_option linter.unusedSimpArgs false
namespace Go.Proofs.YtobbfenkdnaanaaGreatDoor
open Go.RowKit

set_option maxRecDepth 100000 in
theorem skewed_calls (x : Int) (h0 : -1000 ≤ x) (h1 : x ≤ 1000) (w : World) :
    Calls Tryz.prog 323 #[.int .i64 x] w fun e w' => e = .returned (.int .i64 ((x * 631305 - 261663) / 2097152)) ∧ w' = w := by
  go_enter Tryz.func323, Tryz.ntmps323
  go_wp2
  go_ret
  exact ⟨rfl, rfl⟩

set_option maxRecDepth 100000 in
theorem log10_calls (x : Int) (h0 : -1000 ≤ x) (h1 : x ≤ 1000) (w : World) :
    Calls Tryz.prog 270 #[.int .i64 x] w fun e w' => e = .returned (.int .i64 (x * 78913 / 262144)) ∧ w' = w := by
  go_enter Tryz.func270, Tryz.ntmps270
  go_wp2
  go_ret
  exact ⟨rfl, rfl⟩

set_option maxRecDepth 100000 in
theorem log2_calls (x : Int) (h0 : -1000 ≤ x) (h1 : x ≤ 1000) (w : World) :
    Calls Tryz.prog 325 #[.int .i64 x] w fun e w' => e = .returned (.int .i64 (x * 108853 / 32768)) ∧ w' = w := by
  go_enter Tryz.func325, Tryz.ntmps325
  go_wp2
  go_ret
  exact ⟨rfl, rfl⟩

set_option maxRecDepth 100000 in
theorem bool2_calls (b : Bool) (w : World) :
    Calls Tryz.prog 340 #[.bool b] w fun e w' => e = .returned (.int .u64 (if b then 1 else 0)) ∧ w' = w := by
  cases b
  · go_enter Tryz.func340, Tryz.ntmps340
    go_wp2
    go_ret
    exact ⟨rfl, rfl⟩
  · go_enter Tryz.func340, Tryz.ntmps340
    go_wp2
    go_ret
    exact ⟨rfl, rfl⟩

set_option maxRecDepth 100000 in
theorem nudge_calls (u d : Int) (h0 : 0 ≤ u) (h00 : 0 ≤ u + d) (h1 : u ≤ 2 ^ 62) (hd0 : -1 ≤ d) (hd1 : d ≤ 1) (w : World) :
    Calls Tryz.prog 327 #[.int .u64 u, .int .i64 d] w fun e w' => e = .returned (.int .u64 (u + d)) ∧ w' = w := by
  have HE := Aside0.mk (show IntKind.u64.wrap (u + IntKind.u64.wrap d) = u + d by simp only [IntKind.wrap_u64]; omega)
  go_enter Tryz.func327, Tryz.ntmps327
  go_wp2
  go_ret
  refine ⟨?_, rfl⟩
  show Ending.returned (.int .u64 (IntKind.u64.wrap (u + IntKind.u64.wrap d))) = _
  rw [HE.out]

set_option maxRecDepth 100000 in
theorem ceil_calls (u : Nat) (h1 : u ≤ 2 ^ 62) (w : World) :
    Calls Tryz.prog 328 #[.int .u64 u] w fun e w' => e = .returned (.int .u64 (((u + 3) / 4 : Nat) : Int)) ∧ w' = w := by
  have HE := Aside0.mk (show ((u : Int) + 3) / 4 = (((u + 3) / 4 : Nat) : Int) by omega)
  go_enter Tryz.func328, Tryz.ntmps328
  go_wp2
  go_ret
  refine ⟨?_, rfl⟩
  show Ending.returned (.int .u64 (((u : Int) + 3) / 4)) = _
  rw [HE.out]

set_option maxRecDepth 100000 in
theorem floor_calls (u : Nat) (h1 : u ≤ 2 ^ 62) (w : World) :
    Calls Tryz.prog 329 #[.int .u64 u] w fun e w' => e = .returned (.int .u64 ((u / 4 : Nat) : Int)) ∧ w' = w := by
  have HE := Aside0.mk (show (u : Int) / 4 = ((u / 4 : Nat) : Int) by omega)
  go_enter Tryz.func329, Tryz.ntmps329
  go_wp2
  go_ret
  refine ⟨?_, rfl⟩
  show Ending.returned (.int .u64 ((u : Int) / 4)) = _
  rw [HE.out]

theorem i64_and1 (i : Nat) (hi : i < 4611686018427387904) : Go.bits .and .i64 (i : Int) 1 = ((i % 2 : Nat) : Int) := by
  show IntKind.i64.wrap ((BitVec.ofInt 64 (i : Int) &&& BitVec.ofInt 64 1).toNat : Int) = _
  have h1 : (BitVec.ofInt 64 (i : Int)).toNat = i := by
    rw [BitVec.ofInt_natCast, BitVec.toNat_ofNat]; exact Nat.mod_eq_of_lt (by omega)
  rw [BitVec.toNat_and, h1, show (BitVec.ofInt 64 1).toNat = 1 from rfl, Nat.and_one_is_mod]
  simp only [IntKind.wrap, IntKind.bits, IntKind.signed]
  rcases Nat.mod_two_eq_zero_or_one i with h | h <;> rw [h] <;> decide

theorem and63 : ∀ s : Nat, s < 64 → Go.bits .and .i64 (s : Int) 63 = (s : Int) := by decide

set_option maxRecDepth 100000 in
theorem uscale_calls (x P s b : Nat) (hx : x < 2 ^ 64) (hP : P < 2 ^ 64) (hs : s ≤ 63) (w : World)
    (h0 : w.cell? ⟨b, 0, none⟩ = some (.int .u64 P)) (h1 : w.cell? ⟨b, 1, none⟩ = some (.int .u64 0)) (h2 : w.cell? ⟨b, 2, none⟩ = some (.int .i64 s)) :
    Calls Tryz.prog 326 #[.int .u64 x, .pointer (some ⟨b, 0, none⟩)] w fun e w' => e = .returned (.int .u64 (uS (x * P) s)) ∧ ∃ n, w' = w.drewN n := by
  have hbits := and63 s (by omega)
  go_enter Tryz.func326, Tryz.ntmps326
  go_wp2_with fail
  refine (Tryz.bits_Mul64 x P hx hP _).mono ?_
  rintro e w1 ⟨rfl, rfl⟩
  have hZ : x * P < 18446744073709551616 * 18446744073709551616 := by
    have h1 : x * P ≤ x * 18446744073709551616 := Nat.mul_le_mul_left x (by omega)
    have h2 : x * 18446744073709551616 < 18446744073709551616 * 18446744073709551616 := Nat.mul_lt_mul_of_pos_right (by omega) (by decide)
    omega
  have hu : uS (x * P) s = if x * P / 18446744073709551616 / 2 ^ s * 2 ^ s ≠ x * P / 18446744073709551616 then x * P / 18446744073709551616 / 2 ^ s ||| 1 else x * P / 18446744073709551616 / 2 ^ s ||| (if x * P % 18446744073709551616 > 1 then 1 else 0) := rfl
  have hR : ∃ R, R = uS (x * P) s := ⟨_, rfl⟩
  obtain ⟨R, hR⟩ := hR
  rw [← hR] at hu
  generalize hh : x * P / 18446744073709551616 = hi at *
  generalize hm : x * P % 18446744073709551616 = mid at *
  have hhi : hi < 18446744073709551616 := by omega
  have hmid : mid < 18446744073709551616 := by omega
  clear hh hm hZ
  have hq : hi / 2 ^ s ≤ hi := Nat.div_le_self _ _
  have hqm : hi / 2 ^ s * 2 ^ s ≤ hi := Nat.div_mul_le_self _ _
  have hor1 : Go.bits .or .u64 ((hi : Int) / 2 ^ s) 1 = ((hi / 2 ^ s ||| 1 : Nat) : Int) := by
    have := bits_or_u64_nat (hi / 2 ^ s) 1 (by omega) (by omega)
    rw [← this, Int.natCast_ediv, Int.natCast_pow]; rfl
  have hw : IntKind.u64.wrap ((hi : Int) / 2 ^ s * 2 ^ s) = ((hi / 2 ^ s * 2 ^ s : Nat) : Int) := by
    have : ((hi / 2 ^ s * 2 ^ s : Nat) : Int) = (hi : Int) / 2 ^ s * 2 ^ s := by rw [Int.natCast_mul, Int.natCast_ediv, Int.natCast_pow]; rfl
    rw [← this, IntKind.wrap_u64]; omega
  by_cases hc : hi / 2 ^ s * 2 ^ s = hi
  · have cmp : (IntKind.u64.wrap ((hi : Int) / 2 ^ s * 2 ^ s) != (hi : Int)) = false := by rw [hw, hc]; exact bne_self_eq_false _
    have HR := Aside0.mk (show uS (x * P) s = hi / 2 ^ s ||| (if mid > 1 then 1 else 0) by rw [← hR, hu, if_neg (by omega)])
    have hor0 : ∀ c : Nat, c ≤ 1 → Go.bits .or .u64 ((hi : Int) / 2 ^ s) (c : Int) = ((hi / 2 ^ s ||| c : Nat) : Int) := by
      intro c hc1
      have := bits_or_u64_nat (hi / 2 ^ s) c (by omega) (by omega)
      rw [← this]; rw [Int.natCast_ediv, Int.natCast_pow]; rfl
    have HO := Aside0.mk hor0
    clear hc hw hu hR hq hqm hor1 hor0
    go_wp2_with fail
    refine (Tryz.bits_Mul64 x 0 hx (by decide) _).mono ?_
    rintro e w2 ⟨rfl, rfl⟩
    have lt0 : decide ((mid : Int) < 0) = false := decide_eq_false (by omega)
    by_cases hg : mid > 1
    · have gt1 : decide ((mid : Int) > 1) = true := decide_eq_true (by omega)
      have HR2 := Aside0.mk (HR.out.trans (by rw [if_pos hg]))
      clear hg
      have ho := HO.out 1 (by omega)
      clear HO
      go_wp2_with fail
      refine (bool2_calls false _).mono ?_
      rintro e w3 ⟨rfl, rfl⟩
      go_wp2_with fail
      go_quiet (exact Calls.quiet_of_same (bool2_calls true _))
      go_wp2
      go_ret
      exact ⟨by show Ending.returned (.int .u64 _) = _; rw [HR2.out, ← ho]; rfl, _, rfl⟩
    · have gt1 : decide ((mid : Int) > 1) = false := decide_eq_false (by omega)
      have HR2 := Aside0.mk (HR.out.trans (by rw [if_neg hg]))
      clear hg
      have ho := HO.out 0 (by omega)
      clear HO
      go_wp2_with fail
      refine (bool2_calls false _).mono ?_
      rintro e w3 ⟨rfl, rfl⟩
      go_wp2_with fail
      go_quiet (exact Calls.quiet_of_same (bool2_calls false _))
      go_wp2
      go_ret
      exact ⟨by show Ending.returned (.int .u64 _) = _; rw [HR2.out, ← ho]; rfl, _, rfl⟩
  · have cmp : (IntKind.u64.wrap ((hi : Int) / 2 ^ s * 2 ^ s) != (hi : Int)) = true := by rw [hw]; exact bne_iff_ne.2 (by omega)
    have HR := Aside0.mk (show hi / 2 ^ s ||| 1 = uS (x * P) s by rw [← hR, hu, if_pos hc])
    clear hc hw hu hR hq hqm
    go_wp2_with fail
    go_ret
    exact ⟨by show Ending.returned (.int .u64 _) = _; rw [← HR.out, ← hor1], 0, rfl⟩

/-- The powers of ten that the printing takes lie in their table. -/
structure PowT (w : World) : Prop where
  size : 16 ≤ w.heap.size
  hi : ∀ p : Nat, 4 ≤ p → p ≤ 19 → w.cell? ⟨15, (p + 348) * 2, none⟩ = some (.int .u64 ((10 ^ p * 2 ^ (63 - lpOf p) : Nat) : Int))
  lo : ∀ p : Nat, 4 ≤ p → p ≤ 19 → w.cell? ⟨15, (p + 348) * 2 + 1, none⟩ = some (.int .u64 0)

set_option maxRecDepth 100000 in
theorem prescale_calls (b : Nat) (e : Int) (p lp s : Nat) (P : Nat) (he0 : -1000 ≤ e) (he1 : e ≤ 0) (hp1 : p ≤ 20) (hl1 : lp ≤ 1000) (hs : -(e + (lp : Int) + 3) = (s : Int)) (w : World) (v0 v1 v2 : Value)
    (h0 : w.cell? ⟨b, 0, none⟩ = some v0) (h1 : w.cell? ⟨b, 1, none⟩ = some v1) (h2 : w.cell? ⟨b, 2, none⟩ = some v2)
    (hb : 16 ≤ b) (f0 : w.frozen? ⟨b, 0, none⟩ = false) (f1 : w.frozen? ⟨b, 1, none⟩ = false) (f2 : w.frozen? ⟨b, 2, none⟩ = false)
    (t0 : w.cell? ⟨15, (p + 348) * 2, none⟩ = some (.int .u64 P)) (t1 : w.cell? ⟨15, (p + 348) * 2 + 1, none⟩ = some (.int .u64 0)) :
    Calls Tryz.prog 324 #[.pointer (some ⟨b, 0, none⟩), .int .i64 e, .int .i64 p, .int .i64 lp] w fun r w' => r = .returned (.tuple #[]) ∧ w'.cell? ⟨b, 0, none⟩ = some (.int .u64 P) ∧ w'.cell? ⟨b, 1, none⟩ = some (.int .u64 0) ∧ w'.cell? ⟨b, 2, none⟩ = some (.int .i64 s) ∧ Below b w w' := by
  have HS := Aside0.mk hs
  clear hs
  go_enter Tryz.func324, Tryz.ntmps324
  go_wp2_with fail
  refine bodyPost_end (results_none rfl _ _ _) rfl ⟨rfl, ?_, ?_, ?_, ?_⟩
  · simp [go_sem, h0, h1, h2]
  · simp [go_sem, h0, h1, h2]
  · rw [← HS.out]; simp [go_sem, h0, h1, h2]
  · exact (((Below.refl b w).setCell (p := ⟨b, 0, none⟩) (Nat.le_refl b) _).setCell (p := ⟨b, 1, none⟩) (Nat.le_refl b) _).setCell (p := ⟨b, 2, none⟩) (Nat.le_refl b) _

theorem skewed_at (x q : Int) (h0 : -1000 ≤ x) (h1 : x ≤ 1000) (hq : (x * 631305 - 261663) / 2097152 = q) (w : World) :
    Calls Tryz.prog 323 #[.int .i64 x] w fun e w' => e = .returned (.int .i64 q) ∧ w' = w := by
  have := skewed_calls x h0 h1 w
  rwa [hq] at this

theorem log10_at (x q : Int) (h0 : -1000 ≤ x) (h1 : x ≤ 1000) (hq : x * 78913 / 262144 = q) (w : World) :
    Calls Tryz.prog 270 #[.int .i64 x] w fun e w' => e = .returned (.int .i64 q) ∧ w' = w := by
  have := log10_calls x h0 h1 w
  rwa [hq] at this

theorem uscale_at (xi : Int) (x P s b R : Nat) (hxi : xi = (x : Int)) (hx : x < 2 ^ 64) (hP : P < 2 ^ 64) (hs : s ≤ 63) (hR : uS (x * P) s = R) (w : World)
    (h0 : w.cell? ⟨b, 0, none⟩ = some (.int .u64 P)) (h1 : w.cell? ⟨b, 1, none⟩ = some (.int .u64 0)) (h2 : w.cell? ⟨b, 2, none⟩ = some (.int .i64 s)) :
    Calls Tryz.prog 326 #[.int .u64 xi, .pointer (some ⟨b, 0, none⟩)] w fun e w' => e = .returned (.int .u64 R) ∧ ∃ n, w' = w.drewN n := by
  subst hxi; subst hR
  exact uscale_calls x P s b hx hP hs w h0 h1 h2

theorem ceil_at (ui : Int) (u : Nat) (hu : ui = (u : Int)) (h1 : u ≤ 2 ^ 62) (w : World) :
    Calls Tryz.prog 328 #[.int .u64 ui] w fun e w' => e = .returned (.int .u64 (((u + 3) / 4 : Nat) : Int)) ∧ w' = w := by
  subst hu; exact ceil_calls u h1 w

theorem floor_at (ui : Int) (u : Nat) (hu : ui = (u : Int)) (h1 : u ≤ 2 ^ 62) (w : World) :
    Calls Tryz.prog 329 #[.int .u64 ui] w fun e w' => e = .returned (.int .u64 ((u / 4 : Nat) : Int)) ∧ w' = w := by
  subst hu; exact floor_calls u h1 w

theorem log2_at (p lp : Nat) (h1 : p ≤ 1000) (hq : lp = lpOf p) (w : World) :
    Calls Tryz.prog 325 #[.int .i64 p] w fun e w' => e = .returned (.int .i64 lp) ∧ w' = w := by
  have := log2_calls p (by omega) (by omega) w
  rwa [show (p : Int) * 108853 / 32768 = (lp : Int) by rw [hq]; unfold lpOf; omega] at this

set_option maxRecDepth 100000 in
theorem short_calls {N T M : Nat} (hN : 1 ≤ N) (ht : Thou N T M) (w : World) (hT : PowT w) :
    Calls Tryz.prog 310 #[.int .u64 ((M * 2048 : Nat) : Int), .int .i64 (-11 - (T : Int))] w fun e w' => ∃ p : Nat, 4 ≤ p ∧ p ≤ 19 ∧ N * 10 ^ (p - 4) < 2 ^ 56 ∧
      e = .returned (.tuple #[.int .u64 ((N * 10 ^ (p - 4) : Nat) : Int), .int .i64 (1 - (p : Int))]) ∧ Below w.heap.size w w' := by
  have ⟨hsn, hsk⟩ := scale_at ht.t1 ht.t2
  have hT1 := ht.t1; have hT2 := ht.t2; have hm1 := ht.m1; have hm2 := ht.m2
  obtain ⟨m, hm⟩ : ∃ m, m = M * 2048 := ⟨_, rfl⟩
  rw [← hm]
  have hma : 9223372036854775808 ≤ m := by omega
  have hmb : m ≤ 18446744073709549568 := by omega
  by_cases hk : M = 2 ^ 52
  · have c0 : ((m : Int) == 9223372036854775808) = true := beq_iff_eq.2 (by rw [hm, hk]; rfl)
    have c1 : decide ((-11 - (T : Int)) > -1085) = true := decide_eq_true (by omega)
    obtain ⟨hs, hq⟩ := hsk
    obtain ⟨p, hp⟩ : ∃ p, p = pK T := ⟨_, rfl⟩
    rw [← hp] at hs hq
    obtain ⟨lp, hlp⟩ : ∃ lp, lp = lpOf p := ⟨_, rfl⟩
    rw [← hlp] at hs
    obtain ⟨s, hsd⟩ : ∃ s, s = T + 8 - lp := ⟨_, rfl⟩
    rw [← hsd] at hs
    have hp1 := hs.p1; have hp2 := hs.p2
    obtain ⟨o, ho, ho1⟩ : ∃ o : Nat, Go.bits .and .i64 ((m : Int) / 2048) 1 = (o : Int) ∧ o ≤ 1 := by
      refine ⟨M % 2, ?_, by omega⟩
      rw [show (m : Int) / 2048 = (M : Int) by omega]
      exact i64_and1 M (by omega)
    have HP := short_plain hN ht hs (fun _ => hk) ho1
    have HPA := Aside0.mk HP
    have HS := Aside0.mk hs
    have HT := Aside0.mk hT
    have HQ := Aside0.mk hq
    have HM := Aside0.mk hm
    have HLP := Aside0.mk hlp
    clear HP hs hT hq hm hsn hlp hp hk hsd
    go_enter Tryz.func310, Tryz.ntmps310
    go_wp2_with fail
    refine (skewed_at _ (-(p : Int)) (by omega) (by omega) (by rw [show (-11 - (T : Int) + 11) = -(T : Int) by omega]; exact HQ.out) _).mono ?_
    rintro e w1 ⟨rfl, rfl⟩
    go_wp2_with fail
    refine (log2_at p lp (by omega) HLP.out _).mono ?_
    rintro e w2 ⟨rfl, rfl⟩
    go_wp2_with fail
    refine (prescale_calls w1.heap.size (-11 - (T : Int)) p lp s (10 ^ p * 2 ^ (63 - lp)) (by omega) (by omega) (by omega) (by have := HS.out.l1; omega) (by have := HS.out.se; omega) _ (.int .u64 0) (.int .u64 0) (.int .i64 0) ?c0 ?c1 ?c2 HT.out.size ?f0 ?f1 ?f2 ?t0 ?t1).mono ?_
    case c0 => simp [go_sem]
    case c1 => simp [go_sem]
    case c2 => simp [go_sem]
    case f0 => simp [go_sem]
    case f1 => simp [go_sem]
    case f2 => simp [go_sem]
    case t0 =>
      have h16 := HT.out.size
      have := HT.out.hi p hp1 hp2
      rw [← HLP.out] at this
      rw [← this]
      exact World.cell?_alloc_past _ _ _ (by omega)
    case t1 =>
      have h16 := HT.out.size
      have := HT.out.lo p hp1 hp2
      rw [← this]
      exact World.cell?_alloc_past _ _ _ (by omega)
    rintro e w3 ⟨rfl, d0, d1, d2, hb⟩
    have hb1 : Below w1.heap.size w1 w3 := ((Below.refl _ _).alloc (Nat.le_refl _) _).trans hb
    have HB := Aside0.mk hb1
    obtain ⟨bk, hbk⟩ : ∃ bk, bk = w1.heap.size := ⟨_, rfl⟩
    rw [← hbk] at d0 d1 d2 HB ⊢
    have HBK := Aside0.mk hbk
    clear hb hb1 hbk
    obtain ⟨P, hPd⟩ : ∃ P, P = 10 ^ p * 2 ^ (63 - lp) := ⟨_, rfl⟩
    rw [← hPd] at d0 HPA
    have HP1 := Aside0.mk (show P < 2 ^ 64 by rw [hPd]; exact HS.out.P1)
    obtain ⟨U1, hU1⟩ : ∃ U, uS ((M * 2048 - 512) * P) s = U := ⟨_, rfl⟩
    obtain ⟨U2, hU2⟩ : ∃ U, uS ((M * 2048 + 1024) * P) s = U := ⟨_, rfl⟩
    have HB1 := Aside0.mk (show U1 ≤ 2 ^ 61 by rw [← hU1]; exact uS_bound _ _ _ (by omega) HP1.out HS.out.s2)
    have HB2 := Aside0.mk (show U2 ≤ 2 ^ 61 by rw [← hU2]; exact uS_bound _ _ _ (by omega) HP1.out HS.out.s2)
    rw [hU1, hU2] at HPA
    have HU1 := Aside0.mk hU1
    have HU2 := Aside0.mk hU2
    clear hU1 hU2 hPd
    go_wp2_with fail
    refine (uscale_at _ (M * 2048 - 512) P s bk U1 (by have := HM.out; omega) (by omega) HP1.out HS.out.s1 HU1.out _ d0 d1 d2).mono ?_
    rintro e w4 ⟨rfl, n4, rfl⟩
    have d0' : (w3.drewN n4).cell? ⟨bk, 0, none⟩ = some (.int .u64 P) := d0
    have d1' : (w3.drewN n4).cell? ⟨bk, 1, none⟩ = some (.int .u64 0) := d1
    have d2' : (w3.drewN n4).cell? ⟨bk, 2, none⟩ = some (.int .i64 s) := d2
    have HB4 := Aside0.mk (show Below bk w1 (w3.drewN n4) from ⟨HB.out.os, HB.out.tape, HB.out.output, HB.out.size, HB.out.block⟩)
    generalize w3.drewN n4 = w4 at d0' d1' d2' HB4 ⊢
    clear d0 d1 d2 HB
    go_wp2_with fail
    refine (nudge_calls U1 o (by omega) (by omega) (by have := HB1.out; omega) (by omega) (by omega) _).mono ?_
    rintro e w5 ⟨rfl, rfl⟩
    go_wp2_with fail
    refine (ceil_at _ (U1 + o) (by omega) (by have := HB1.out; omega) _).mono ?_
    rintro e w6 ⟨rfl, rfl⟩
    obtain ⟨dmin, hdmin⟩ : ∃ dmin, dmin = (U1 + o + 3) / 4 := ⟨_, rfl⟩
    rw [← hdmin] at HPA ⊢
    clear hdmin
    go_wp2_with fail
    refine (uscale_at _ (M * 2048 + 1024) P s bk U2 (by have := HM.out; omega) (by omega) HP1.out HS.out.s1 HU2.out _ d0' d1' d2').mono ?_
    rintro e w7 ⟨rfl, n7, rfl⟩
    have HB7 := Aside0.mk (show Below bk w1 (w6.drewN n7) from ⟨HB4.out.os, HB4.out.tape, HB4.out.output, HB4.out.size, HB4.out.block⟩)
    generalize w6.drewN n7 = w7 at HB7 ⊢
    clear d0' d1' d2' HB4
    go_wp2_with fail
    refine (nudge_calls U2 (-(o : Int)) (by omega) (by have := HPA.out; omega) (by have := HB2.out; omega) (by omega) (by omega) _).mono ?_
    rintro e w8 ⟨rfl, rfl⟩
    go_wp2_with fail
    refine (floor_at _ (U2 - o) (by have := HPA.out; omega) (by have := HB2.out; omega) _).mono ?_
    rintro e w9 ⟨rfl, rfl⟩
    obtain ⟨dmax, hdmax⟩ : ∃ dmax, dmax = (U2 - o) / 4 := ⟨_, rfl⟩
    have HDB := Aside0.mk (show dmax ≤ 2 ^ 59 by have := HB2.out; omega)
    rw [← hdmax] at HPA ⊢
    clear hdmax
    obtain ⟨d, hd⟩ : ∃ d, d = N * 10 ^ (p - 4) := ⟨_, rfl⟩
    have HD := Aside0.mk hd
    rw [← hd] at HPA
    clear hd
    have e1 : (dmax : Int) / 10 = (d : Int) := by have := HPA.out; omega
    have dd : d ≤ 72057594037927935 := by have := HPA.out; have := HDB.out; omega
    have cg : decide ((d : Int) * 10 ≥ (dmin : Int)) = true := decide_eq_true (by have := HPA.out; omega)
    have dmb : dmax ≤ 576460752303423488 := HDB.out
    go_wp2_with fail
    refine bodyPost_ret (v := .tuple #[.int .u64 d, .int .i64 (-((p : Int) - 1))]) (by simp [results, Tryz.results310, go_sem]) rfl ⟨p, hp1, hp2, ?_, ?_, ?_⟩
    · rw [← HD.out]; omega
    · rw [← HD.out, show -((p : Int) - 1) = 1 - (p : Int) by omega]
    · rw [← HBK.out]; exact HB7.out
  · have c0 : ((m : Int) == 9223372036854775808) = false := beq_eq_false_iff_ne.2 (by omega)
    have c1 : decide ((-11 - (T : Int)) ≥ -1085) = true := decide_eq_true (by omega)
    obtain ⟨hs, hq⟩ := hsn
    obtain ⟨p, hp⟩ : ∃ p, p = pN T := ⟨_, rfl⟩
    rw [← hp] at hs hq
    obtain ⟨lp, hlp⟩ : ∃ lp, lp = lpOf p := ⟨_, rfl⟩
    rw [← hlp] at hs
    obtain ⟨s, hsd⟩ : ∃ s, s = T + 8 - lp := ⟨_, rfl⟩
    rw [← hsd] at hs
    have hp1 := hs.p1; have hp2 := hs.p2
    obtain ⟨o, ho, ho1⟩ : ∃ o : Nat, Go.bits .and .i64 ((m : Int) / 2048) 1 = (o : Int) ∧ o ≤ 1 := by
      refine ⟨M % 2, ?_, by omega⟩
      rw [show (m : Int) / 2048 = (M : Int) by omega]
      exact i64_and1 M (by omega)
    have HP := short_plain hN ht hs (by intro h; cases h) ho1
    have HPA := Aside0.mk HP
    have HS := Aside0.mk hs
    have HT := Aside0.mk hT
    have HQ := Aside0.mk hq
    have HM := Aside0.mk hm
    have HLP := Aside0.mk hlp
    clear HP hs hT hq hm hsk hlp hp hk hsd
    go_enter Tryz.func310, Tryz.ntmps310
    go_wp2_with fail
    refine (log10_at _ (-(p : Int)) (by omega) (by omega) (by rw [show (-11 - (T : Int) + 11) = -(T : Int) by omega]; exact HQ.out) _).mono ?_
    rintro e w1 ⟨rfl, rfl⟩
    go_wp2_with fail
    refine (log2_at p lp (by omega) HLP.out _).mono ?_
    rintro e w2 ⟨rfl, rfl⟩
    go_wp2_with fail
    refine (prescale_calls w1.heap.size (-11 - (T : Int)) p lp s (10 ^ p * 2 ^ (63 - lp)) (by omega) (by omega) (by omega) (by have := HS.out.l1; omega) (by have := HS.out.se; omega) _ (.int .u64 0) (.int .u64 0) (.int .i64 0) ?c0 ?c1 ?c2 HT.out.size ?f0 ?f1 ?f2 ?t0 ?t1).mono ?_
    case c0 => simp [go_sem]
    case c1 => simp [go_sem]
    case c2 => simp [go_sem]
    case f0 => simp [go_sem]
    case f1 => simp [go_sem]
    case f2 => simp [go_sem]
    case t0 =>
      have h16 := HT.out.size
      have := HT.out.hi p hp1 hp2
      rw [← HLP.out] at this
      rw [← this]
      exact World.cell?_alloc_past _ _ _ (by omega)
    case t1 =>
      have h16 := HT.out.size
      have := HT.out.lo p hp1 hp2
      rw [← this]
      exact World.cell?_alloc_past _ _ _ (by omega)
    rintro e w3 ⟨rfl, d0, d1, d2, hb⟩
    have hb1 : Below w1.heap.size w1 w3 := ((Below.refl _ _).alloc (Nat.le_refl _) _).trans hb
    have HB := Aside0.mk hb1
    obtain ⟨bk, hbk⟩ : ∃ bk, bk = w1.heap.size := ⟨_, rfl⟩
    rw [← hbk] at d0 d1 d2 HB ⊢
    have HBK := Aside0.mk hbk
    clear hb hb1 hbk
    obtain ⟨P, hPd⟩ : ∃ P, P = 10 ^ p * 2 ^ (63 - lp) := ⟨_, rfl⟩
    rw [← hPd] at d0 HPA
    have HP1 := Aside0.mk (show P < 2 ^ 64 by rw [hPd]; exact HS.out.P1)
    obtain ⟨U1, hU1⟩ : ∃ U, uS ((M * 2048 - 1024) * P) s = U := ⟨_, rfl⟩
    obtain ⟨U2, hU2⟩ : ∃ U, uS ((M * 2048 + 1024) * P) s = U := ⟨_, rfl⟩
    have HB1 := Aside0.mk (show U1 ≤ 2 ^ 61 by rw [← hU1]; exact uS_bound _ _ _ (by omega) HP1.out HS.out.s2)
    have HB2 := Aside0.mk (show U2 ≤ 2 ^ 61 by rw [← hU2]; exact uS_bound _ _ _ (by omega) HP1.out HS.out.s2)
    rw [hU1, hU2] at HPA
    have HU1 := Aside0.mk hU1
    have HU2 := Aside0.mk hU2
    clear hU1 hU2 hPd
    go_wp2_with fail
    refine (uscale_at _ (M * 2048 - 1024) P s bk U1 (by have := HM.out; omega) (by omega) HP1.out HS.out.s1 HU1.out _ d0 d1 d2).mono ?_
    rintro e w4 ⟨rfl, n4, rfl⟩
    have d0' : (w3.drewN n4).cell? ⟨bk, 0, none⟩ = some (.int .u64 P) := d0
    have d1' : (w3.drewN n4).cell? ⟨bk, 1, none⟩ = some (.int .u64 0) := d1
    have d2' : (w3.drewN n4).cell? ⟨bk, 2, none⟩ = some (.int .i64 s) := d2
    have HB4 := Aside0.mk (show Below bk w1 (w3.drewN n4) from ⟨HB.out.os, HB.out.tape, HB.out.output, HB.out.size, HB.out.block⟩)
    generalize w3.drewN n4 = w4 at d0' d1' d2' HB4 ⊢
    clear d0 d1 d2 HB
    go_wp2_with fail
    refine (nudge_calls U1 o (by omega) (by omega) (by have := HB1.out; omega) (by omega) (by omega) _).mono ?_
    rintro e w5 ⟨rfl, rfl⟩
    go_wp2_with fail
    refine (ceil_at _ (U1 + o) (by omega) (by have := HB1.out; omega) _).mono ?_
    rintro e w6 ⟨rfl, rfl⟩
    obtain ⟨dmin, hdmin⟩ : ∃ dmin, dmin = (U1 + o + 3) / 4 := ⟨_, rfl⟩
    rw [← hdmin] at HPA ⊢
    clear hdmin
    go_wp2_with fail
    refine (uscale_at _ (M * 2048 + 1024) P s bk U2 (by have := HM.out; omega) (by omega) HP1.out HS.out.s1 HU2.out _ d0' d1' d2').mono ?_
    rintro e w7 ⟨rfl, n7, rfl⟩
    have HB7 := Aside0.mk (show Below bk w1 (w6.drewN n7) from ⟨HB4.out.os, HB4.out.tape, HB4.out.output, HB4.out.size, HB4.out.block⟩)
    generalize w6.drewN n7 = w7 at HB7 ⊢
    clear d0' d1' d2' HB4
    go_wp2_with fail
    refine (nudge_calls U2 (-(o : Int)) (by omega) (by have := HPA.out; omega) (by have := HB2.out; omega) (by omega) (by omega) _).mono ?_
    rintro e w8 ⟨rfl, rfl⟩
    go_wp2_with fail
    refine (floor_at _ (U2 - o) (by have := HPA.out; omega) (by have := HB2.out; omega) _).mono ?_
    rintro e w9 ⟨rfl, rfl⟩
    obtain ⟨dmax, hdmax⟩ : ∃ dmax, dmax = (U2 - o) / 4 := ⟨_, rfl⟩
    have HDB := Aside0.mk (show dmax ≤ 2 ^ 59 by have := HB2.out; omega)
    rw [← hdmax] at HPA ⊢
    clear hdmax
    obtain ⟨d, hd⟩ : ∃ d, d = N * 10 ^ (p - 4) := ⟨_, rfl⟩
    have HD := Aside0.mk hd
    rw [← hd] at HPA
    clear hd
    have e1 : (dmax : Int) / 10 = (d : Int) := by have := HPA.out; omega
    have dd : d ≤ 72057594037927935 := by have := HPA.out; have := HDB.out; omega
    have cg : decide ((d : Int) * 10 ≥ (dmin : Int)) = true := decide_eq_true (by have := HPA.out; omega)
    have dmb : dmax ≤ 576460752303423488 := HDB.out
    go_wp2_with fail
    refine bodyPost_ret (v := .tuple #[.int .u64 d, .int .i64 (-((p : Int) - 1))]) (by simp [results, Tryz.results310, go_sem]) rfl ⟨p, hp1, hp2, ?_, ?_, ?_⟩
    · rw [← HD.out]; omega
    · rw [← HD.out, show -((p : Int) - 1) = 1 - (p : Int) by omega]
    · rw [← HBK.out]; exact HB7.out
end Go.Proofs.YtobbfenkdnaanaaGreatDoor
