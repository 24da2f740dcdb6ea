/- A float's text: ftoa64 at 'f', the shortest, walked. -/
import Derived.Test.YtobbfenkdnaanaaGreatDoorTimC
import Derived.Test.YtobbfenkdnaanaaGreatDoorTimE
import Derived.Laws.Externs
import Derived.Laws.FloatArith
set_option linter.unusedVariables false
set_option linter.unusedSimpArgs false
namespace Go.Proofs.YtobbfenkdnaanaaGreatDoor
open Go.RowKit Go.Sort

theorem fbits (b : Nat) (w : World) : (callFunc 300 #[.float .f64 b]).run Tryz.prog w = .ok (.value (.int .u64 b)) w := by
  rw [run_callFunc_extern (e := Extern.MathFloatBits.float64bits) Tryz.func300 (by kernel_rfl) (by kernel_rfl) (by kernel_rfl) (by kernel_rfl)]
  rfl

theorem Txt.next {w w' : World} {base : Nat} {v : Value} {t : List UInt8} (h : Txt w base v t) {B : Nat} (hb : Below B w w') (hB : ∀ k, v.ownBlock = some k → k < B) : Txt w' base v t := by
  obtain ⟨h1, h2⟩ := h
  refine ⟨h1, h2.imp id ?_⟩
  rintro ⟨g, cap, cur, rfl, hbase, hg, h3, h4, h5, h6⟩
  exact ⟨g, cap, cur, rfl, hbase, (hb.block g (hB g rfl)).trans hg, h3, h4, h5, h6⟩

theorem St.drewN {w0 w : World} {base b : Nat} {l t : List UInt8} {v : Value} (h : St w0 base b l v t w) (n : Nat) : St w0 base b l v t (w.drewN n) :=
  ⟨h.txt, h.bys, h.ne, h.lt, ⟨h.bel.os, h.bel.tape, h.bel.output, h.bel.size, h.bel.block⟩, h.bs⟩

/-- What ftoa64 hands back. -/
def Ftoa (w : World) (base : Nat) (t : List UInt8) (e : Ending) (w' : World) : Prop := ∃ v, e = .returned v ∧ Txt w' base v t ∧ Below base w w'

set_option maxHeartbeats 1000000 in
set_option maxRecDepth 100000 in
theorem ftoa0_calls (v0 : Value) (base : Nat) (w : World) (hst : St w base 0 [] v0 [] w) :
    Calls Tryz.prog 275 #[v0, .float .f64 0, .int .u8 102, .int .i64 (-1)] w (Ftoa w base [48]) := by
  have hext := fbits 0
  have HST := Aside0.mk hst
  clear hst
  go_enter Tryz.func275, Tryz.ntmps275
  go_wp2_with fail
  go_quiet (fail)
  go_wp2_with fail
  have hs2 : St w base 0 [] v0 [] (w.drewN nq) := HST.out.drewN nq
  refine (fmt0_calls v0 0 [] base _ ⟨hs2.txt, hs2.bys, hs2.ne, hs2.lt, Below.refl _ _, hs2.bs⟩).mono ?_
  rintro e w1 ⟨v, rfl, h1⟩
  have H1 := Aside0.mk h1
  have H2 := Aside0.mk hs2
  clear h1 hs2
  go_wp2_with fail
  refine bodyPost_ret (v := v) (by simp [results, Tryz.results275, go_sem]) rfl ⟨v, rfl, H1.out.txt, H2.out.bel.trans H1.out.bel⟩

theorem i64_and2047 (i : Nat) (hi : i < 4611686018427387904) : Go.bits .and .i64 (i : Int) 2047 = ((i % 2048 : Nat) : Int) := by
  show IntKind.i64.wrap ((BitVec.ofInt 64 (i : Int) &&& BitVec.ofInt 64 2047).toNat : Int) = _
  have h1 : (BitVec.ofInt 64 (i : Int)).toNat = i := by
    rw [BitVec.ofInt_natCast, BitVec.toNat_ofNat]; exact Nat.mod_eq_of_lt (by omega)
  rw [BitVec.toNat_and, h1, show (BitVec.ofInt 64 2047).toNat = 2 ^ 11 - 1 from rfl, Nat.and_two_pow_sub_one_eq_mod]
  have : i % 2 ^ 11 < 2048 := Nat.mod_lt _ (by decide)
  simp only [IntKind.wrap, IntKind.bits, IntKind.signed]
  have e : i % 2 ^ 11 = i % 2048 := rfl
  rw [e] at this ⊢
  generalize i % 2048 = r at this ⊢
  simp
  omega

theorem u64_and52 (i : Nat) (hi : i < 18446744073709551616) : Go.bits .and .u64 (i : Int) 4503599627370495 = ((i % 4503599627370496 : Nat) : Int) := by
  have := bits_and_u64_nat i 4503599627370495 hi (by decide)
  rw [show ((4503599627370495 : Nat) : Int) = 4503599627370495 from rfl] at this
  rw [this, show 4503599627370495 = 2 ^ 52 - 1 from rfl, Nat.and_two_pow_sub_one_eq_mod]

theorem u64_or52 (i : Nat) (hi : i < 4503599627370496) : Go.bits .or .u64 (i : Int) 4503599627370496 = ((i + 4503599627370496 : Nat) : Int) := by
  have := bits_or_u64_nat i 4503599627370496 (by omega) (by decide)
  rw [show ((4503599627370496 : Nat) : Int) = 4503599627370496 from rfl] at this
  rw [this, Nat.or_comm]
  have h2 := Nat.two_pow_add_eq_or_of_lt (i := 52) (b := i) (by omega) 1
  rw [Nat.mul_one, show 2 ^ 52 = 4503599627370496 from rfl] at h2
  rw [← h2, Nat.add_comm]

theorem bitLen53 (M : Nat) (h1 : 2 ^ 52 ≤ M) (h2 : M < 2 ^ 53) : Lib.bitLen M = 53 := by
  rw [Lib.bitLen_shift 52 M h1 (by omega), show M / 2 ^ 52 = 1 by omega]
  rfl

theorem short_at {N T M : Nat} (mi ei : Int) (hN : 1 ≤ N) (ht : Thou N T M) (hm : mi = ((M * 2048 : Nat) : Int)) (he : ei = -11 - (T : Int)) (w : World) (hT : PowT w) :
    Calls Tryz.prog 310 #[.int .u64 mi, .int .i64 ei] w fun e w' => ∃ p : Nat, 4 ≤ p ∧ p ≤ 19 ∧ N * 10 ^ (p - 4) < 2 ^ 56 ∧
      e = .returned (.tuple #[.int .u64 ((N * 10 ^ (p - 4) : Nat) : Int), .int .i64 (1 - (p : Int))]) ∧ Below w.heap.size w w' := by
  subst hm; subst he
  exact short_calls hN ht w hT

theorem PowT.below {w w' : World} (h : PowT w) {B : Nat} (hB : 16 ≤ B) (hb : Below B w w') : PowT w' :=
  ⟨Nat.le_trans h.size hb.size, fun p h1 h2 => (hb.cell (p := ⟨15, (p + 348) * 2, none⟩) (by show 15 < B; omega)).trans (h.hi p h1 h2), fun p h1 h2 => (hb.cell (p := ⟨15, (p + 348) * 2 + 1, none⟩) (by show 15 < B; omega)).trans (h.lo p h1 h2)⟩
theorem PowT.next {w w' : World} (h : PowT w) (hb : Below w.heap.size w w') : PowT w' := h.below h.size hb

theorem Blank.below {w w' : World} {b n B : Nat} (h : Blank w b n) (hb : Below B w w') (hB : b < B) : Blank w' b n := fun j hj =>
  ⟨(hb.cell (p := ⟨b, j, none⟩) hB).trans (h j hj).1, (hb.frozen (p := ⟨b, j, none⟩) hB).trans (h j hj).2⟩

theorem len_at (M : Nat) (h : Lib.bitLen M = 53) (hM : M ≤ 9007199254740991) (w : World) : Calls Tryz.prog 130 #[.int .u64 M] w fun e w' => e = .returned (.int .i64 53) ∧ w' = w := by
  have := Tryz.bits_Len64 (M : Int) w (by omega) (by omega)
  rwa [Int.toNat_natCast, h] at this

/-- What the digits of the shortest are. -/
def Short (N : Nat) (neg : Bool) (t : List UInt8) : Prop := ∃ p k : Nat, 4 ≤ p ∧ p ≤ 19 ∧ N * 10 ^ (p - 4) < 2 ^ 56 ∧ Trim (Lib.decDigits (N * 10 ^ (p - 4))) k ∧
  t = decT neg ((Lib.decDigits (N * 10 ^ (p - 4))).take k) ((Lib.nDigits (N * 10 ^ (p - 4)) : Int) + (1 - (p : Int)))

theorem blank32 (j : Nat) (hj : j < 32) : (#[Value.int IntKind.u8 0, Value.int IntKind.u8 0, Value.int IntKind.u8 0, Value.int IntKind.u8 0, Value.int IntKind.u8 0, Value.int IntKind.u8 0, Value.int IntKind.u8 0, Value.int IntKind.u8 0, Value.int IntKind.u8 0, Value.int IntKind.u8 0, Value.int IntKind.u8 0, Value.int IntKind.u8 0, Value.int IntKind.u8 0, Value.int IntKind.u8 0, Value.int IntKind.u8 0, Value.int IntKind.u8 0, Value.int IntKind.u8 0, Value.int IntKind.u8 0, Value.int IntKind.u8 0, Value.int IntKind.u8 0, Value.int IntKind.u8 0, Value.int IntKind.u8 0, Value.int IntKind.u8 0, Value.int IntKind.u8 0, Value.int IntKind.u8 0, Value.int IntKind.u8 0, Value.int IntKind.u8 0, Value.int IntKind.u8 0, Value.int IntKind.u8 0, Value.int IntKind.u8 0, Value.int IntKind.u8 0, Value.int IntKind.u8 0] : Array Value)[j]? = some (.int .u8 0) := by
  rw [show (#[Value.int IntKind.u8 0, Value.int IntKind.u8 0, Value.int IntKind.u8 0, Value.int IntKind.u8 0, Value.int IntKind.u8 0, Value.int IntKind.u8 0, Value.int IntKind.u8 0, Value.int IntKind.u8 0, Value.int IntKind.u8 0, Value.int IntKind.u8 0, Value.int IntKind.u8 0, Value.int IntKind.u8 0, Value.int IntKind.u8 0, Value.int IntKind.u8 0, Value.int IntKind.u8 0, Value.int IntKind.u8 0, Value.int IntKind.u8 0, Value.int IntKind.u8 0, Value.int IntKind.u8 0, Value.int IntKind.u8 0, Value.int IntKind.u8 0, Value.int IntKind.u8 0, Value.int IntKind.u8 0, Value.int IntKind.u8 0, Value.int IntKind.u8 0, Value.int IntKind.u8 0, Value.int IntKind.u8 0, Value.int IntKind.u8 0, Value.int IntKind.u8 0, Value.int IntKind.u8 0, Value.int IntKind.u8 0, Value.int IntKind.u8 0] : Array Value) = Array.replicate 32 (Value.int .u8 0) from rfl]
  simp [hj]

theorem blank_alloc (w : World) (o : Array Value) (t : TypeId) (C : Nat) (h : ∀ j, j < C → o[j]? = some (.int .u8 0)) : Blank (w.alloc (.cells o t)) w.heap.size C := fun j hj =>
  ⟨(World.cell?_alloc_at o t w.heap.size j rfl).trans (h j hj), World.frozen?_alloc_at o t w.heap.size j rfl⟩

set_option maxHeartbeats 2000000 in
set_option maxRecDepth 100000 in
theorem ftoa_calls {N T M : Nat} (hN : 1 ≤ N) (hN2 : N < 10 ^ 15) (ht : Thou N T M) (neg : Bool) (W : Nat) (hW : W = (if neg then 2 ^ 63 else 0) + ((1074 - T) * 2 ^ 52 + M)) (v0 : Value) (base : Nat) (w : World) (hst : St w base 0 [] v0 [] w) (hT : PowT w) (hG : Glob w) :
    Calls Tryz.prog 275 #[v0, .float .f64 W, .int .u8 102, .int .i64 (-1)] w fun e w' => ∃ t, Short N neg t ∧ Ftoa w base t e w' := by
  have hext := fbits W
  have hT1 := ht.t1; have hT2 := ht.t2; have hm1 := ht.m1; have hm2 := ht.m2
  obtain ⟨q, hq⟩ : ∃ q : Nat, q = W / 4503599627370496 := ⟨_, rfl⟩
  obtain ⟨ex, hex⟩ : ∃ ex : Nat, ex = 1075 - T := ⟨_, rfl⟩
  obtain ⟨f, hf⟩ : ∃ f : Nat, f = M - 4503599627370496 := ⟨_, rfl⟩
  have hWl : W < 18446744073709551616 := by cases neg <;> simp at hW <;> omega
  have hqv : q = ex + if neg then 2048 else 0 := by cases neg <;> simp at hW ⊢ <;> omega
  have f1 : ((W : Int) / 9223372036854775808 != 0) = neg := by
    cases neg
    · refine bne_eq_false_iff_eq.2 ?_; simp at hW; omega
    · refine bne_iff_ne.2 ?_; simp at hW; omega
  have f2 : (W : Int) / 4503599627370496 = (q : Int) := by omega
  have f3 : Go.bits .and .i64 (q : Int) 2047 = (ex : Int) := by
    rw [i64_and2047 q (by omega)]; congr 1; cases neg <;> simp at hqv <;> omega
  have f4 : Go.bits .and .u64 (W : Int) 4503599627370495 = (f : Int) := by
    rw [u64_and52 W hWl]; congr 1; cases neg <;> simp at hW <;> omega
  have f5 : ((ex : Int) == 2047) = false := beq_eq_false_iff_ne.2 (by omega)
  have f6 : ((ex : Int) == 0) = false := beq_eq_false_iff_ne.2 (by omega)
  have f7 : Go.bits .or .u64 (f : Int) 4503599627370496 = (M : Int) := by
    rw [u64_or52 f (by omega)]; congr 1; omega
  have f8 : ((M : Int) == 0) = false := beq_eq_false_iff_ne.2 (by omega)
  have hq1 : q ≤ 4095 := by rw [hqv]; cases neg <;> simp <;> omega
  have hex1 : ex ≤ 1062 := by omega
  have hM : M ≤ 9007199254740991 := by omega
  have HBL := Aside0.mk (bitLen53 M hm1 hm2)
  have HST := Aside0.mk hst
  have HT := Aside0.mk hT
  have HG := Aside0.mk hG
  have HTH := Aside0.mk ht
  have HEX := Aside0.mk hex
  have HN2 := Aside0.mk hN2
  clear hst hT hG ht hW hq hf hqv hm1 hm2 hex hN2
  go_enter Tryz.func275, Tryz.ntmps275
  go_wp2_with fail
  go_quiet (fail)
  go_wp2_with fail
  obtain ⟨W1, hW1⟩ : ∃ W1, W1 = (w.drewN nq).alloc (Obj.cells #[Value.int IntKind.u8 0, Value.int IntKind.u8 0, Value.int IntKind.u8 0, Value.int IntKind.u8 0, Value.int IntKind.u8 0, Value.int IntKind.u8 0, Value.int IntKind.u8 0, Value.int IntKind.u8 0, Value.int IntKind.u8 0, Value.int IntKind.u8 0, Value.int IntKind.u8 0, Value.int IntKind.u8 0, Value.int IntKind.u8 0, Value.int IntKind.u8 0, Value.int IntKind.u8 0, Value.int IntKind.u8 0, Value.int IntKind.u8 0, Value.int IntKind.u8 0, Value.int IntKind.u8 0, Value.int IntKind.u8 0, Value.int IntKind.u8 0, Value.int IntKind.u8 0, Value.int IntKind.u8 0, Value.int IntKind.u8 0, Value.int IntKind.u8 0, Value.int IntKind.u8 0, Value.int IntKind.u8 0, Value.int IntKind.u8 0, Value.int IntKind.u8 0, Value.int IntKind.u8 0, Value.int IntKind.u8 0, Value.int IntKind.u8 0] 320) := ⟨_, rfl⟩
  have hbl : Blank W1 w.heap.size 32 := by
    rw [hW1]; exact blank_alloc (w.drewN nq) _ _ _ (fun j hj => blank32 j hj)
  have hsz : W1.heap.size = w.heap.size + 1 := by rw [hW1]; simp [World.alloc, World.drewN]
  have hbw : Below w.heap.size w W1 := by
    have hbd : Below w.heap.size w (w.drewN nq) := ⟨rfl, rfl, rfl, Nat.le_refl _, fun _ _ => rfl⟩
    rw [hW1]; exact hbd.alloc (Nat.le_refl _) _
  have htx : Txt W1 base v0 [] := by
    rw [hW1]; exact World.ownsRow.alloc (w := w.drewN nq) HST.out.txt _
  rw [← hW1]
  clear hW1
  obtain ⟨b, hb⟩ : ∃ b, b = w.heap.size := ⟨_, rfl⟩
  rw [← hb] at hbl hsz ⊢
  have HB := Aside0.mk hb
  have HBL1 := Aside0.mk hbl
  have HSZ := Aside0.mk hsz
  have HBW := Aside0.mk hbw
  have HTX := Aside0.mk htx
  clear hb hbl hbw htx hsz
  refine (len_at M HBL.out hM _).mono ?_
  rintro e w1 ⟨rfl, rfl⟩
  have f9 : IntKind.u64.wrap ((M : Int) * 2048) = ((M * 2048 : Nat) : Int) := by rw [IntKind.wrap_u64]; omega
  go_wp2_with fail
  refine (short_at _ _ hN HTH.out (by first | rfl | omega) (by have := HEX.out; omega) _ (HT.out.next HBW.out)).mono ?_
  rintro e w2 ⟨p, hp1, hp2, hd, rfl, hb2⟩
  obtain ⟨u, hu⟩ : ∃ u, u = N * 10 ^ (p - 4) := ⟨_, rfl⟩
  rw [← hu] at hd ⊢
  have hu1 : 1 ≤ u := by rw [hu]; exact Nat.mul_pos hN (Nat.pow_pos (by decide))
  have HU := Aside0.mk hu
  have HB2 := Aside0.mk hb2
  have HPP := Aside0.mk (And.intro hp1 hp2)
  have HG2 := Aside0.mk (((HG.out.next HBW.out).next hb2).next (below_drew (Below.refl _ _)))
  have HBL2 := Aside0.mk (((HBL1.out.below hb2 (by have := HSZ.out; omega)).below (below_drew (Below.refl w2.heap.size w2)) (by have := HSZ.out; have := hb2.size; omega)))
  have HDU := Aside0.mk hd
  clear hu hb2
  have hn20 := Lib.nDigits_le20 u (by omega)
  go_wp2_with fail
  go_region_with (first
    | (go_at_call 216; refine (Tryz.internal_strconv_numDigits u hu1 (by have := HDU.out; omega) _ HG2.out.pow).mono ?_; rintro e w3 ⟨rfl, rfl⟩)
    | (go_at_call 305; refine (setDigits_calls b u 32 (1 - (p : Int)) hu1 (by have := HDU.out; omega) (by omega) (by omega) (by omega) (by omega) _ ?hbl).mono ?_; (case hbl => exact HBL2.out); rintro e w4 ⟨k, hk, rfl, hby, hb4⟩))
  have hkp := trim_pos hu1 hk
  have hkl : k ≤ Lib.nDigits u := by have := hk.1; rwa [Lib.decDigits_length] at this
  obtain ⟨dp, hdp⟩ : ∃ dp : Int, (Lib.nDigits u : Int) + (1 - (p : Int)) = dp := ⟨_, rfl⟩
  have hdpb : -3 ≤ dp ∧ dp ≤ 20 := by
    have e1 : Lib.nDigits u = Lib.nDigits N + (p - 4) := by rw [HU.out]; exact nDigits_mul N hN (p - 4)
    have e2 := nDigits_le 14 N HN2.out
    have e3 := Lib.nDigits_pos N
    have e4 := HPP.out.1
    omega
  obtain ⟨pr, hpr⟩ : ∃ pr : Nat, max ((k : Int) - dp) 0 = (pr : Int) := ⟨(max ((k : Int) - dp) 0).toNat, by omega⟩
  have hdp1 := hdpb.1
  have hdp2 := hdpb.2
  have HK := Aside0.mk hk
  have HBY := Aside0.mk hby
  have HB4 := Aside0.mk hb4
  have HDP := Aside0.mk hdp
  have HPR := Aside0.mk hpr
  clear hk hby hb4
  go_wp2_with fail
  have hb2s := HB2.out.size
  have hb4s := HB4.out.size
  have hszz := HSZ.out
  have hbb := HB.out
  have hbelb : Below b w w4 := by
    have h1 : Below b w w2 := by rw [hbb]; exact HBW.out.trans (HB2.out.mono (by omega))
    exact (h1.trans (below_drew (Below.refl w2.heap.size w2) |>.mono (by omega))).trans HB4.out
  have hlen : ((Lib.decDigits u).take k).length = k := by rw [List.length_take, Lib.decDigits_length]; omega
  have hst4 : St w4 base b ((Lib.decDigits u).take k) v0 [] w4 := by
    refine ⟨HST.out.txt.next hbelb (fun j hj => by rw [hbb]; exact (World.ownsRow.lt HST.out.txt j hj).2), ?_, ?_, ?_, Below.refl _ _, ?_⟩
    · intro j x hj
      rw [List.getElem?_take] at hj
      split at hj
      · exact HBY.out j x hj
      · cases hj
    · intro e
      have := (World.ownsRow.lt HST.out.txt b e.symm).2
      omega
    · have : w2.drew.heap.size = w2.heap.size := rfl
      omega
    · have : w2.drew.heap.size = w2.heap.size := rfl
      have := HST.out.bs
      omega
  refine (fmtF_calls neg v0 b 32 k pr _ dp base w4 hst4 hlen.symm hpr.symm hkp (by omega) (by omega) (by omega) hdp1 hdp2).mono ?_
  rintro e w5 ⟨v, rfl, h5⟩
  have H5 := Aside0.mk h5
  have HBE := Aside0.mk (hbelb.mono (show base ≤ b by have := HST.out.bs; omega))
  clear h5 hst4 hbelb hb2s hb4s hszz hbb hlen
  go_wp2_with fail
  refine bodyPost_ret (v := v) (by simp [results, Tryz.results275, go_sem]) rfl ⟨decT neg ((Lib.decDigits u).take k) dp, ⟨p, k, HPP.out.1, HPP.out.2, ?_, ?_, ?_⟩, v, rfl, H5.out.txt, HBE.out.trans H5.out.bel⟩
  · rw [← HU.out]; exact HDU.out
  · rw [← HU.out]; exact HK.out
  · rw [← HU.out, HDP.out]
end Go.Proofs.YtobbfenkdnaanaaGreatDoor
