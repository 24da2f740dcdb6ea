/- Letters appended behind a place of a row that a call may write to: one relation, and one law for each kind of append. utf8.AppendRune behind a place of a row that the call may write to, by contract. strconv.appendEscapedRune behind a place of a row that the call may write to, by contract. strconv.AppendQuote into the room behind a place of a row, by contract. -/
import Derived.Deep.Upon
import Derived.Lib.BufSteps
import Derived.Lib.Quote
import Derived.Deep.Draws
import Derived.Below
import Derived.Test.YtobbfenkdnaanaaGreatDoorKt
import Derived.Lib.RuneBytes
import Derived.Shelf.Strings.BuilderK
import Derived.Tactics
import Derived.Test.YtobbfenkdnaanaaGreatDoorQjr
import Derived.Lib.QuoteHex
import Derived.LoopN
import Derived.Lib.QuoteLoop
import Derived.BigCall
import Derived.BigGuard
import Derived.Shelf.Unicode.DecodeAny
import Derived.Shelf.Strconv.Quoted
import Derived.OwnWalk
import Derived.Laws.DeepStrings4
import Derived.Lib.Buffer
import Derived.Laws.IdiomCopy
set_option linter.unusedVariables false
set_option linter.unusedSimpArgs false
namespace Go.Proofs.YtobbfenkdnaanaaGreatDoor
open Go.RowKit

/-- No step turns the tape. -/
theorem ask_tape {α : Type} : ∀ (x : Ask α) (w : World), (w.ask x).2.tape = w.tape
  | .done a, w => rfl
  | .ask what range k, w => by
    unfold World.ask
    dsimp only
    split
    · exact ask_tape (k 0) w
    · exact ask_tape (k _) _
theorem sys_tape (w : World) (c : Sys) : (w.sys c).2.tape = w.tape := by
  have h := ask_tape (Kernel.perform c w.os) w
  unfold World.sys
  split
  · rfl
  · rename_i r os w' _ e
    rw [e] at h
    exact h
theorem viewStore_tape {P : Program} {w : World} {at_ : Addr} {u : TypeId} {a : Addr} {v : Value} {b : Bool} {r : World × List Addr} (h : w.viewStore P at_ u a v b = .ok r) : r.1.tape = w.tape := by
  unfold World.viewStore at h
  simp only [bind, Except.bind, pure, Except.pure, throw, throwThe, MonadExceptOf.throw] at h
  repeat' split at h
  all_goals (cases h <;> rfl)
theorem farStore_tape {P : Program} {w : World} {a : Addr} {v : Value} {b : Bool} {r : World × List Addr} (h : w.farStore P a v b = .ok r) : r.1.tape = w.tape := by
  unfold World.farStore at h
  split at h
  · split at h
    · rename_i r' hv
      injection h with h
      subst h
      exact viewStore_tape hv
    · cases h
  · cases h
theorem freeze_tape (w : World) (a : Addr) (n : Nat) : (w.freeze a n).tape = w.tape := by
  unfold World.freeze
  first
    | rfl
    | (split <;> rfl)
    | (repeat' split) <;> rfl
theorem run_tape {α : Type} (P : Program) (x : Sem α) : ∀ (w : World) {v : α} {w' : World}, x.run P w = .ok v w' → w'.tape = w.tape := by
  induction x with
  | pure a => intro w v w' h; simp only [Sem.run] at h; cases h; rfl
  | load m a k ih =>
    intro w v w' h
    simp only [Sem.run] at h
    split at h
    · exact ih _ _ h
    · split at h
      · exact ih _ _ h
      · cases h
  | store m a x k ih =>
    intro w v w' h
    cases x <;> simp only [Sem.run] at h <;> first
      | cases h; done
      | (split at h
         · split at h
           · cases h
           · exact (ih _ h).trans rfl
         · split at h
           · rename_i hf
             exact (ih _ h).trans (farStore_tape hf)
           · cases h)
  | new o k ih => intro w v w' h; simp only [Sem.run] at h; exact (ih _ _ h).trans rfl
  | shape r k ih => intro w v w' h; simp only [Sem.run] at h; exact ih _ _ h
  | freeze a n k ih => intro w v w' h; simp only [Sem.run] at h; exact (ih _ h).trans (freeze_tape w a n)
  | frozen a k ih => intro w v w' h; simp only [Sem.run] at h; exact ih _ _ h
  | getObj r k ih =>
    intro w v w' h
    simp only [Sem.run] at h
    split at h
    · cases h
    · exact ih _ _ h
    · cases h
  | setObj r o k ih =>
    intro w v w' h
    simp only [Sem.run] at h
    split at h
    · cases h
    · exact (ih _ h).trans rfl
    · cases h
  | choose q k ih =>
    intro w v w' h
    simp only [Sem.run] at h
    split at h
    · exact ih _ _ h
    · exact (ih _ _ h).trans rfl
  | sys c k ih => intro w v w' h; simp only [Sem.run] at h; exact (ih _ _ h).trans (sys_tape w c)
  | program k ih => intro w v w' h; simp only [Sem.run] at h; exact ih _ _ h
  | mark m k ih => intro w v w' h; simp only [Sem.run] at h; exact ih _ h
  | halt hh => intro w v w' h; simp only [Sem.run] at h; cases h

/-- Where letters are appended: W0 the world below whose end nothing turns; W the world at the first append; the place: row g, from cell l on, C cells of room. -/
structure UCtx where
  W0 : World
  W : World
  ao : Option Addr
  g : Nat
  l : Nat
  C : Nat
  below : Below W0.heap.size W0 W
  le : W0.heap.size ≤ g
  came : Came W 1 ao g l 0 C []

/-- The slice v has n letters, the cells xs, in w. -/
def UBuf (K : UCtx) (e : TypeId) (v : Value) (n : Nat) (xs : List Value) (w : World) : Prop :=
  w.tape = K.W.tape ∧ ∃ r, Upon K.W e 1 K.ao K.g K.l 0 K.C [] w v n xs r
section
variable {K : UCtx} {e : TypeId} {v : Value} {n : Nat} {xs : List Value} {w : World}
theorem UBuf.start (K : UCtx) (e : TypeId) : UBuf K e (.slice K.ao 0 K.C) 0 [] K.W := ⟨rfl, 0, Upon.start K.came⟩
theorem UBuf.alloc (h : UBuf K e v n xs w) (o : Obj) : UBuf K e v n xs (w.alloc o) := ⟨h.1, h.2.elim fun r h => ⟨r, h.alloc K.came o⟩⟩
theorem UBuf.drewN (h : UBuf K e v n xs w) (q : Nat) : UBuf K e v n xs (w.drewN q) := ⟨h.1, h.2.elim fun r h => ⟨r, h.carry K.came rfl rfl (fun _ _ => rfl) (fun _ _ _ => rfl)⟩⟩
theorem UBuf.later (h : UBuf K e v n xs w) {w' : World} (hb : Below w.heap.size w w') : UBuf K e v n xs w' :=
  ⟨hb.tape.trans h.1, h.2.elim fun r h => ⟨r, h.carry K.came hb.os hb.output (fun i hi => hb.block i (Nat.lt_of_lt_of_le hi h.kept.size)) (fun g _ hg => hb.block g hg)⟩⟩
theorem UBuf.below (h : UBuf K e v n xs w) : Below K.W0.heap.size K.W0 w := by
  obtain ⟨ht, r, h⟩ := h
  refine K.below.trans ⟨h.kept.1, ht, h.kept.2.1, h.kept.size, fun k hk => ?_⟩
  refine h.kept.block (Nat.lt_of_lt_of_le hk K.below.size) ?_
  rintro p ⟨j, _, rfl⟩ he
  have := K.le
  have he' : K.g = k := he
  omega
theorem UBuf.len (h : UBuf K e v n xs w) : xs.length = n := by
  obtain ⟨_, r, h⟩ := h
  simpa using h.ksLen
end

section
variable {P : Program}
/-- .. any row of letters that lies somewhere. -/
theorem wpList_append_srcU {ops : Array Oper} {rest : List Oper} {o : Oper} {a : Act} {Q : Exit → Act → World → Prop} (hgd : o.guard = none) (s x : Operand) (t tx : TypeId)
    (ho : o.op = .call { callee := .builtin .append, args := #[s, x], argTypes := #[t, tx] })
    (K : UCtx) (e : TypeId) (i : TypeInfo) (ht : P.underlying t = some (.slice e)) (hi : P.info? e = some i) (hz : i.zero = some (.int .u8 0)) (hsize : i.size = 1) (hby : i.bytes = 1)
    (v : Value) (n : Nat) (xs : List Value) (hs : a.eval s = v) (w : World) (hb : UBuf K e v n xs w) (xv : Value) (m : Nat) (news : List Value) (hx : a.eval x = xv) (hsrc : Src P 1 tx xv m news w) (hlen : n + m ≤ 140737488355328)
    (h : ∀ v' w', UBuf K e v' (n + m) (xs ++ news) w' → wpList P ops Q rest (a.put o.dst v') w') : wpList P ops Q (o :: rest) a w := by
  refine wpList_plain hgd fun Kk hK' => ?_
  obtain ⟨ht0, r, hU⟩ := hb
  obtain ⟨v', w', hrun, r'⟩ := run_append_upon (P := P) K.came t tx o.type i (.int .u8 0) 1 ht hi hz hsize hby rfl hU xv m news hsrc (by unfold maxLen; omega) (by omega)
  have htape := run_tape P _ _ hrun
  unfold Oper.wp
  simp [execOp, ho, resolve, invoke, builtin, hs, hx, hrun, Result.andThen]
  exact hK' _ _ (h v' w' ⟨htape.trans ht0, _, r'⟩)
/-- 'buf = append(buf, c)'. -/
theorem wpList_append_byteU {ops : Array Oper} {rest : List Oper} {o : Oper} {a : Act} {Q : Exit → Act → World → Prop} (hgd : o.guard = none) (s x : Operand) (t : TypeId)
    (ho : o.op = .call { callee := .builtin .append, args := #[s, x], argTypes := #[t, t] })
    (K : UCtx) (e : TypeId) (i : TypeInfo) (ht : P.underlying t = some (.slice e)) (hi : P.info? e = some i) (hz : i.zero = some (.int .u8 0)) (hsize : i.size = 1) (hby : i.bytes = 1)
    (v : Value) (n : Nat) (xs : List Value) (hs : a.eval s = v) (w0 : World) (c : Int) (hb : UBuf K e v n xs w0)
    (hx : a.eval x = .slice (some ⟨w0.heap.size, 0, none⟩) 1 1) (hlen : n + 1 ≤ 140737488355328)
    (h : ∀ v' w', UBuf K e v' (n + 1) (xs ++ [.int .u8 c]) w' → wpList P ops Q rest (a.put o.dst v') w') : wpList P ops Q (o :: rest) a (w0.alloc (.cells #[.int .u8 c] e)) := by
  refine wpList_append_srcU hgd s x t t ho K e i ht hi hz hsize hby v n xs hs _ (hb.alloc _) _ 1 [.int .u8 c] hx (Src.ofSlice _ ht _ 1 1 _ rfl ?_ ?_) hlen h
  · intro j u hj
    match j, hj with
    | 0, hj => simp at hj; subst hj; simp [Addr.add]
    | (j + 1), hj => simp at hj
  · intro u hu; simp at hu; subst hu; rfl
/-- 'buf = append(buf, text...)'. -/
theorem wpList_append_textU {ops : Array Oper} {rest : List Oper} {o : Oper} {a : Act} {Q : Exit → Act → World → Prop} {w : World} (hgd : o.guard = none) (sl x : Operand) (t u : TypeId)
    (ho : o.op = .call { callee := .builtin .append, args := #[sl, x], argTypes := #[t, u] })
    (K : UCtx) (e : TypeId) (i : TypeInfo) (ht : P.underlying t = some (.slice e)) (hu : P.underlying u = some .string) (hi : P.info? e = some i) (hz : i.zero = some (.int .u8 0)) (hsize : i.size = 1) (hby : i.bytes = 1)
    (v : Value) (n : Nat) (xs : List Value) (hs : a.eval sl = v) (hb : UBuf K e v n xs w) (s : ByteArray) (hx : a.eval x = .string s) (hlen : n + s.size ≤ 140737488355328)
    (h : ∀ v' w', UBuf K e v' (n + s.size) (xs ++ Lib.strCells s) w' → wpList P ops Q rest (a.put o.dst v') w') : wpList P ops Q (o :: rest) a w := by
  refine wpList_append_srcU hgd sl x t u ho K e i ht hi hz hsize hby v n xs hs _ hb _ s.size (byteCells s) hx (Src.ofString _ hu s) hlen ?_
  intro v' w' hU
  exact h v' w' hU
/-- 'p = append(p, b0, b1, ..)': the new letters lie in the block just laid. -/
theorem wpList_append_newU {ops : Array Oper} {rest : List Oper} {o : Oper} {a : Act} {Q : Exit → Act → World → Prop} (hgd : o.guard = none) (s x : Operand) (t : TypeId)
    (ho : o.op = .call { callee := .builtin .append, args := #[s, x], argTypes := #[t, t] })
    (K : UCtx) (e : TypeId) (i : TypeInfo) (ht : P.underlying t = some (.slice e)) (hi : P.info? e = some i) (hz : i.zero = some (.int .u8 0)) (hsize : i.size = 1) (hby : i.bytes = 1)
    (v : Value) (n : Nat) (xs : List Value) (hs : a.eval s = v) (w0 : World) (m : Nat) (news : List Value) (hm : news.length = m) (h1 : ∀ u ∈ news, u.oneCell' = true) (hb : UBuf K e v n xs w0)
    (hx : a.eval x = .slice (some ⟨w0.heap.size, 0, none⟩) m m) (hlen : n + m ≤ 140737488355328)
    (h : ∀ v' w', UBuf K e v' (n + m) (xs ++ news) w' → wpList P ops Q rest (a.put o.dst v') w') : wpList P ops Q (o :: rest) a (w0.alloc (.cells news.toArray e)) := by
  refine wpList_append_srcU hgd s x t t ho K e i ht hi hz hsize hby v n xs hs _ (hb.alloc _) _ m news hx (Src.ofSlice _ ht _ m m _ (by omega) ?_ h1) hlen h
  intro j u hj
  have : (⟨w0.heap.size, 0, none⟩ : Addr).add j = ⟨w0.heap.size, j, none⟩ := by rw [Addr.add_lit, Nat.zero_add]
  rw [this, World.cell?_alloc_new w0 _ _ j]
  simpa using hj
end
end Go.Proofs.YtobbfenkdnaanaaGreatDoor

namespace Go.Proofs.YtobbfenkdnaanaaGreatDoor
open Go.RowKit Go.Proofs

set_option maxHeartbeats 4000000 in
set_option maxRecDepth 100000 in
theorem rune_two (K : UCtx) (v : Value) (n : Nat) (xs : List Value) (r : Int) (h0 : 128 ≤ r) (h1 : r ≤ 2047) (w : World) (hb : UBuf K 5 v n xs w) (hlen : n + 4 ≤ 140737488355328) :
    Calls Tryz.prog 319 #[v, .int .i32 r] w fun e w' => ∃ v', e = .returned v' ∧ UBuf K 5 v' (n + 2) (xs ++ [.int .u8 (192 + r / 64), .int .u8 (128 + r % 64)]) w' := by
  obtain ⟨i0, hi, hz0, hz1, hz2⟩ := info_parts infoB
  go_enter Tryz.func319, Tryz.ntmps319
  go_wp2_with (at_builtin; refine wpList_append_newU rfl _ _ 62 rfl K 5 i0 Tryz.underlying62 hi hz0 hz1 hz2 v n xs rfl _ 2 [.int .u8 (192 + r / 64), .int .u8 (128 + r % 64)] rfl ?c1 hb rfl ?c2 ?_)
  case c1 =>
    first
      | exact ⟨rfl, rfl, rfl⟩
      | (intro u hu; simp at hu; rcases hu with rfl | rfl <;> rfl)
  case c2 => omega
  intro v' w2 hU
  go_wp2
  go_ret
  exact ⟨_, rfl, hU⟩

set_option maxHeartbeats 4000000 in
set_option maxRecDepth 100000 in
theorem rune_three_lo (K : UCtx) (v : Value) (n : Nat) (xs : List Value) (r : Int) (h0 : 2048 ≤ r) (h1 : r < 55296) (w : World) (hb : UBuf K 5 v n xs w) (hlen : n + 4 ≤ 140737488355328) :
    Calls Tryz.prog 319 #[v, .int .i32 r] w fun e w' => ∃ v', e = .returned v' ∧ UBuf K 5 v' (n + 3) (xs ++ [.int .u8 (224 + r / 4096), .int .u8 (128 + r / 64 % 64), .int .u8 (128 + r % 64)]) w' := by
  obtain ⟨i0, hi, hz0, hz1, hz2⟩ := info_parts infoB
  go_enter Tryz.func319, Tryz.ntmps319
  go_wp2_with (at_builtin; refine wpList_append_newU rfl _ _ 62 rfl K 5 i0 Tryz.underlying62 hi hz0 hz1 hz2 v n xs rfl _ 3 [.int .u8 (224 + r / 4096), .int .u8 (128 + r / 64 % 64), .int .u8 (128 + r % 64)] rfl ?c1 hb rfl ?c2 ?_)
  case c1 =>
    first
      | exact ⟨rfl, rfl, rfl⟩
      | (intro u hu; simp at hu; rcases hu with rfl | rfl | rfl <;> rfl)
  case c2 => omega
  intro v' w2 hU
  go_wp2
  go_ret
  exact ⟨_, rfl, hU⟩

set_option maxHeartbeats 4000000 in
set_option maxRecDepth 100000 in
theorem rune_three_hi (K : UCtx) (v : Value) (n : Nat) (xs : List Value) (r : Int) (h0 : 57343 < r) (h1 : r ≤ 65535) (w : World) (hb : UBuf K 5 v n xs w) (hlen : n + 4 ≤ 140737488355328) :
    Calls Tryz.prog 319 #[v, .int .i32 r] w fun e w' => ∃ v', e = .returned v' ∧ UBuf K 5 v' (n + 3) (xs ++ [.int .u8 (224 + r / 4096), .int .u8 (128 + r / 64 % 64), .int .u8 (128 + r % 64)]) w' := by
  obtain ⟨i0, hi, hz0, hz1, hz2⟩ := info_parts infoB
  go_enter Tryz.func319, Tryz.ntmps319
  go_wp2_with (at_builtin; refine wpList_append_newU rfl _ _ 62 rfl K 5 i0 Tryz.underlying62 hi hz0 hz1 hz2 v n xs rfl _ 3 [.int .u8 (224 + r / 4096), .int .u8 (128 + r / 64 % 64), .int .u8 (128 + r % 64)] rfl ?c1 hb rfl ?c2 ?_)
  case c1 =>
    first
      | exact ⟨rfl, rfl, rfl⟩
      | (intro u hu; simp at hu; rcases hu with rfl | rfl | rfl <;> rfl)
  case c2 => omega
  intro v' w2 hU
  go_wp2
  go_ret
  exact ⟨_, rfl, hU⟩

set_option maxHeartbeats 4000000 in
set_option maxRecDepth 100000 in
theorem rune_four (K : UCtx) (v : Value) (n : Nat) (xs : List Value) (r : Int) (h0 : 65536 ≤ r) (h1 : r ≤ 1114111) (w : World) (hb : UBuf K 5 v n xs w) (hlen : n + 4 ≤ 140737488355328) :
    Calls Tryz.prog 319 #[v, .int .i32 r] w fun e w' => ∃ v', e = .returned v' ∧ UBuf K 5 v' (n + 4) (xs ++ [.int .u8 (240 + r / 262144), .int .u8 (128 + r / 4096 % 64), .int .u8 (128 + r / 64 % 64), .int .u8 (128 + r % 64)]) w' := by
  obtain ⟨i0, hi, hz0, hz1, hz2⟩ := info_parts infoB
  go_enter Tryz.func319, Tryz.ntmps319
  go_wp2_with (at_builtin; refine wpList_append_newU rfl _ _ 62 rfl K 5 i0 Tryz.underlying62 hi hz0 hz1 hz2 v n xs rfl _ 4 [.int .u8 (240 + r / 262144), .int .u8 (128 + r / 4096 % 64), .int .u8 (128 + r / 64 % 64), .int .u8 (128 + r % 64)] rfl ?c1 hb rfl ?c2 ?_)
  case c1 =>
    first
      | exact ⟨rfl, rfl, rfl⟩
      | (intro u hu; simp at hu; rcases hu with rfl | rfl | rfl | rfl <;> rfl)
  case c2 => omega
  intro v' w2 hU
  go_wp2
  go_ret
  exact ⟨_, rfl, hU⟩

set_option maxHeartbeats 4000000 in
set_option maxRecDepth 100000 in
theorem rune_bad_sur (K : UCtx) (v : Value) (n : Nat) (xs : List Value) (r : Int) (h0 : 55296 ≤ r) (h1 : r ≤ 57343) (w : World) (hb : UBuf K 5 v n xs w) (hlen : n + 4 ≤ 140737488355328) :
    Calls Tryz.prog 319 #[v, .int .i32 r] w fun e w' => ∃ v', e = .returned v' ∧ UBuf K 5 v' (n + 3) (xs ++ [.int .u8 (239), .int .u8 (191), .int .u8 (189)]) w' := by
  obtain ⟨i0, hi, hz0, hz1, hz2⟩ := info_parts infoB
  go_enter Tryz.func319, Tryz.ntmps319
  go_wp2_with (at_builtin; refine wpList_append_newU rfl _ _ 62 rfl K 5 i0 Tryz.underlying62 hi hz0 hz1 hz2 v n xs rfl _ 3 [.int .u8 (239), .int .u8 (191), .int .u8 (189)] rfl ?c1 hb rfl ?c2 ?_)
  case c1 =>
    first
      | exact ⟨rfl, rfl, rfl⟩
      | (intro u hu; simp at hu; rcases hu with rfl | rfl | rfl <;> rfl)
  case c2 => omega
  intro v' w2 hU
  go_wp2
  go_ret
  exact ⟨_, rfl, hU⟩

set_option maxHeartbeats 4000000 in
set_option maxRecDepth 100000 in
theorem rune_ascii (K : UCtx) (v : Value) (n : Nat) (xs : List Value) (r : Int) (h0 : 0 ≤ r) (h1 : r ≤ 127) (w : World) (hb : UBuf K 5 v n xs w) (hlen : n + 4 ≤ 140737488355328) :
    Calls Tryz.prog 293 #[v, .int .i32 r] w fun e w' => ∃ v', e = .returned v' ∧ UBuf K 5 v' (n + 1) (xs ++ [.int .u8 (r)]) w' := by
  obtain ⟨i0, hi, hz0, hz1, hz2⟩ := info_parts infoB
  go_enter Tryz.func293, Tryz.ntmps293
  go_wp2_with (at_builtin; refine wpList_append_newU rfl _ _ 62 rfl K 5 i0 Tryz.underlying62 hi hz0 hz1 hz2 v n xs rfl _ 1 [.int .u8 (r)] rfl ?c1 hb rfl ?c2 ?_)
  case c1 =>
    first
      | exact ⟨rfl, rfl, rfl⟩
      | (intro u hu; simp at hu; rcases hu with rfl <;> rfl)
  case c2 => omega
  intro v' w2 hU
  go_wp2
  go_ret
  exact ⟨_, rfl, hU⟩

/-- utf8.appendRuneNonASCII at a rune from 128 on. -/
theorem rune_non (K : UCtx) (v : Value) (n : Nat) (xs : List Value) (r : Int) (h0 : 128 ≤ r) (h1 : r ≤ 1114111) (w : World) (hb : UBuf K 5 v n xs w) (hlen : n + 4 ≤ 140737488355328) :
    Calls Tryz.prog 319 #[v, .int .i32 r] w fun e w' => ∃ v', e = .returned v' ∧ UBuf K 5 v' (n + (Lib.runeCells r).length) (xs ++ Lib.runeCells r) w' := by
  by_cases c1 : r ≤ 2047
  · rw [show Lib.runeCells r = [.int .u8 (192 + r / 64), .int .u8 (128 + r % 64)] by simp [Lib.runeCells, Lib.encodeRuneZ_two (by omega) c1]]
    exact rune_two K v n xs r h0 c1 w hb hlen
  by_cases c2 : r < 55296
  · rw [show Lib.runeCells r = [.int .u8 (224 + r / 4096), .int .u8 (128 + r / 64 % 64), .int .u8 (128 + r % 64)] by simp [Lib.runeCells, Lib.encodeRuneZ_three (Or.inl ⟨by omega, c2⟩)]]
    exact rune_three_lo K v n xs r (by omega) c2 w hb hlen
  by_cases c3 : r ≤ 57343
  · rw [show Lib.runeCells r = [.int .u8 239, .int .u8 191, .int .u8 189] by simp [Lib.runeCells, Lib.encodeRuneZ_bad (Or.inr (Or.inl ⟨by omega, c3⟩))]]
    exact rune_bad_sur K v n xs r (by omega) c3 w hb hlen
  by_cases c4 : r ≤ 65535
  · rw [show Lib.runeCells r = [.int .u8 (224 + r / 4096), .int .u8 (128 + r / 64 % 64), .int .u8 (128 + r % 64)] by simp [Lib.runeCells, Lib.encodeRuneZ_three (Or.inr ⟨by omega, c4⟩)]]
    exact rune_three_hi K v n xs r (by omega) c4 w hb hlen
  · rw [show Lib.runeCells r = [.int .u8 (240 + r / 262144), .int .u8 (128 + r / 4096 % 64), .int .u8 (128 + r / 64 % 64), .int .u8 (128 + r % 64)] by simp [Lib.runeCells, Lib.encodeRuneZ_four (by omega) h1]]
    exact rune_four K v n xs r (by omega) h1 w hb hlen

set_option maxHeartbeats 4000000 in
set_option maxRecDepth 100000 in
/-- utf8.AppendRune at every rune of Unicode. -/
theorem rune_calls (K : UCtx) (v : Value) (n : Nat) (xs : List Value) (r : Int) (h0 : 0 ≤ r) (h1 : r ≤ 1114111) (w : World) (hb : UBuf K 5 v n xs w) (hlen : n + 4 ≤ 140737488355328) :
    Calls Tryz.prog 293 #[v, .int .i32 r] w fun e w' => ∃ v', e = .returned v' ∧ UBuf K 5 v' (n + (Lib.runeCells r).length) (xs ++ Lib.runeCells r) w' := by
  by_cases c : r ≤ 127
  · rw [show Lib.runeCells r = [.int .u8 r] by simp [Lib.runeCells, Lib.encodeRuneZ_one h0 c]]
    exact rune_ascii K v n xs r h0 c w hb hlen
  · have h128 : 128 ≤ r := by omega
    have hE := rune_non K v n xs r h128 h1 w hb hlen
    go_enter Tryz.func293, Tryz.ntmps293
    go_wp2_with (go_at_call 319; refine hE.mono ?_; rintro e w1 ⟨v', rfl, hU⟩)
    go_ret
    exact ⟨_, rfl, hU⟩
end Go.Proofs.YtobbfenkdnaanaaGreatDoor

namespace Go.Proofs.YtobbfenkdnaanaaGreatDoor
open Go.RowKit Go.Proofs

set_option maxHeartbeats 4000000 in
set_option maxRecDepth 1000000 in
theorem esc_quoted (T : Lib.PrintTabs) (K : UCtx) (v : Value) (n : Nat) (xs : List Value) (r : Int) (w : World)
    (hb : UBuf K 5 v n xs w) (hlen : n + 10 ≤ 140737488355328) (hT : Lib.PrintTabsAt 8 9 10 11 T w) (hr0 : 0 ≤ r) (hr1 : r ≤ 1114111) (hq : r = 34 ∨ r = 92) :
    Calls Tryz.prog 261 #[v, .int .i32 r, .int .u8 34, .bool false, .bool false] w fun e w' => ∃ v', e = .returned v' ∧ UBuf K 5 v' (n + (Lib.escRune T r).length) (xs ++ Lib.intCells (Lib.escRune T r)) w' := by
  obtain ⟨i0, hi, hz0, hz1, hz2⟩ := info_parts infoB
  have hE : Lib.escRune T r = [92, r] := by simp [Lib.escRune, hq]
  have hw8 : IntKind.u8.wrap r = r := by rcases hq with rfl | rfl <;> rfl
  go_enter Tryz.func261, Tryz.ntmps261
  rcases hq with rfl | rfl
  all_goals (
    go_big_wp2_with (at_builtin; first
      | (refine wpList_append_byteU rfl _ _ 62 rfl K 5 i0 Tryz.underlying62 hi hz0 hz1 hz2 _ _ _ rfl _ _ (by assumption) rfl (by first | omega | (simp only [Lib.size_two]; omega)) ?_; intro _ _ hb)
      | (refine wpList_append_textU rfl _ _ 62 9 rfl K 5 i0 Tryz.underlying62 Tryz.underlying9 hi hz0 hz1 hz2 _ _ _ rfl (by assumption) _ rfl (by first | omega | (simp only [Lib.size_two]; omega)) ?_; intro _ _ hb))
    go_ret
    refine ⟨_, rfl, ?_⟩
    rw [hE]
    simpa [Lib.intCells, List.append_assoc] using hb)

set_option maxHeartbeats 4000000 in
set_option maxRecDepth 1000000 in
theorem esc_print (T : Lib.PrintTabs) (K : UCtx) (v : Value) (n : Nat) (xs : List Value) (r : Int) (w : World)
    (hb : UBuf K 5 v n xs w) (hlen : n + 10 ≤ 140737488355328) (hT : Lib.PrintTabsAt 8 9 10 11 T w) (hr0 : 0 ≤ r) (hr1 : r ≤ 1114111) (hq1 : r ≠ 34) (hq2 : r ≠ 92) (hp : Lib.isPrintR T r = true) :
    Calls Tryz.prog 261 #[v, .int .i32 r, .int .u8 34, .bool false, .bool false] w fun e w' => ∃ v', e = .returned v' ∧ UBuf K 5 v' (n + (Lib.escRune T r).length) (xs ++ Lib.intCells (Lib.escRune T r)) w' := by
  obtain ⟨i0, hi, hz0, hz1, hz2⟩ := info_parts infoB
  have hE : Lib.escRune T r = Lib.encodeRuneZ r := by simp [Lib.escRune, hq1, hq2, hp]
  have cP : Calls Tryz.prog 291 #[.int .i32 r] w fun e w' => e = .returned (.bool true) ∧ ∃ q, w' = w.drewN q := by
    rw [← hp]; exact Any.strconv_IsPrint { Tryz.laysQuote with } T r w (by omega) (by omega) hT
  have cA : ∀ q, Calls Tryz.prog 293 #[v, .int .i32 r] (w.drewN q) fun e w' => ∃ v', e = .returned v' ∧ UBuf K 5 v' (n + (Lib.runeCells r).length) (xs ++ Lib.runeCells r) w' := fun q =>
    rune_calls K v n xs r hr0 hr1 _ (hb.drewN q) (by omega)
  clear hT hp
  go_enter Tryz.func261, Tryz.ntmps261
  go_big_wp2_with (first | (go_at_call 291; refine cP.mono ?_; rintro e w1 ⟨rfl, q1, rfl⟩) | (go_at_call 293; refine (cA _).mono ?_; rintro e w2 ⟨v2, rfl, hb2⟩))
  go_ret
  refine ⟨_, rfl, ?_⟩
  rw [hE]
  simpa [Lib.intCells, Lib.runeCells] using hb2

set_option maxHeartbeats 4000000 in
set_option maxRecDepth 1000000 in
theorem esc_named (T : Lib.PrintTabs) (K : UCtx) (v : Value) (n : Nat) (xs : List Value) (r : Int) (w : World)
    (hb : UBuf K 5 v n xs w) (hlen : n + 10 ≤ 140737488355328) (hT : Lib.PrintTabsAt 8 9 10 11 T w) (hr0 : 0 ≤ r) (hr1 : r ≤ 1114111) (hn : r = 7 ∨ r = 8 ∨ r = 12 ∨ r = 10 ∨ r = 13 ∨ r = 9 ∨ r = 11) :
    Calls Tryz.prog 261 #[v, .int .i32 r, .int .u8 34, .bool false, .bool false] w fun e w' => ∃ v', e = .returned v' ∧ UBuf K 5 v' (n + (Lib.escRune T r).length) (xs ++ Lib.intCells (Lib.escRune T r)) w' := by
  obtain ⟨i0, hi, hz0, hz1, hz2⟩ := info_parts infoB
  have cP : Calls Tryz.prog 291 #[.int .i32 r] w fun e w' => e = .returned (.bool false) ∧ w' = w := by
    have e : Lib.isPrintLatin r = false := by rcases hn with rfl | rfl | rfl | rfl | rfl | rfl | rfl <;> rfl
    rw [← e]; exact Any.strconv_IsPrint_latin { Tryz.laysQuote with } r w (by omega)
  clear hT
  go_enter Tryz.func261, Tryz.ntmps261
  rcases hn with rfl | rfl | rfl | rfl | rfl | rfl | rfl
  all_goals (
    go_big_wp2_with (first | (go_at_call 291; refine cP.mono ?_; rintro e w1 ⟨rfl, rfl⟩) | (at_builtin; first
      | (refine wpList_append_byteU rfl _ _ 62 rfl K 5 i0 Tryz.underlying62 hi hz0 hz1 hz2 _ _ _ rfl _ _ (by assumption) rfl (by first | omega | (simp only [Lib.size_two]; omega)) ?_; intro _ _ hb)
      | (refine wpList_append_textU rfl _ _ 62 9 rfl K 5 i0 Tryz.underlying62 Tryz.underlying9 hi hz0 hz1 hz2 _ _ _ rfl (by assumption) _ rfl (by first | omega | (simp only [Lib.size_two]; omega)) ?_; intro _ _ hb)))
    go_ret
    refine ⟨_, rfl, ?_⟩
    simpa [Lib.intCells, Lib.escRune, Lib.isPrintR, Lib.isPrintLatin, Lib.strCells, ByteArray.size] using hb)

set_option maxHeartbeats 4000000 in
set_option maxRecDepth 1000000 in
theorem esc_hex2 (T : Lib.PrintTabs) (K : UCtx) (v : Value) (n : Nat) (xs : List Value) (r : Int) (w : World)
    (hb : UBuf K 5 v n xs w) (hlen : n + 10 ≤ 140737488355328) (hT : Lib.PrintTabsAt 8 9 10 11 T w) (hr0 : 0 ≤ r) (hr1 : r ≤ 1114111) (hx : r < 32 ∨ r = 127) (hn : ¬ (r = 7 ∨ r = 8 ∨ r = 12 ∨ r = 10 ∨ r = 13 ∨ r = 9 ∨ r = 11)) :
    Calls Tryz.prog 261 #[v, .int .i32 r, .int .u8 34, .bool false, .bool false] w fun e w' => ∃ v', e = .returned v' ∧ UBuf K 5 v' (n + (Lib.escRune T r).length) (xs ++ Lib.intCells (Lib.escRune T r)) w' := by
  obtain ⟨i0, hi, hz0, hz1, hz2⟩ := info_parts infoB
  have cP : Calls Tryz.prog 291 #[.int .i32 r] w fun e w' => e = .returned (.bool false) ∧ w' = w := by
    have e : Lib.isPrintLatin r = false := by simp [Lib.isPrintLatin]; omega
    rw [← e]; exact Any.strconv_IsPrint_latin { Tryz.laysQuote with } r w (by omega)
  clear hT
  obtain ⟨k, rfl⟩ := Int.eq_ofNat_of_zero_le hr0
  have hk : k < 128 := by omega
  have hw8 : IntKind.u8.wrap (k : Int) = (k : Int) := by
    have e : (k : Int) % 256 = k := Int.emod_eq_of_lt (by omega) (by omega)
    simp [IntKind.wrap, IntKind.bits, IntKind.signed, e]
  go_enter Tryz.func261, Tryz.ntmps261
  go_big_wp2_with (first | (go_at_call 291; refine cP.mono ?_; rintro e w1 ⟨rfl, rfl⟩) | (at_builtin; first
      | (refine wpList_append_byteU rfl _ _ 62 rfl K 5 i0 Tryz.underlying62 hi hz0 hz1 hz2 _ _ _ rfl _ _ (by assumption) rfl (by first | omega | (simp only [Lib.size_two]; omega)) ?_; intro _ _ hb)
      | (refine wpList_append_textU rfl _ _ 62 9 rfl K 5 i0 Tryz.underlying62 Tryz.underlying9 hi hz0 hz1 hz2 _ _ _ rfl (by assumption) _ rfl (by first | omega | (simp only [Lib.size_two]; omega)) ?_; intro _ _ hb)))
  all_goals (
    go_ret
    refine ⟨_, rfl, ?_⟩
    have hE : Lib.escRune T (k : Int) = [92, 120, Lib.hexDigit (k / 16), Lib.hexDigit (k % 16)] := by
      have a1 : ¬ ((k : Int) = 34 ∨ (k : Int) = 92) := by omega
      have a2 : Lib.isPrintR T (k : Int) = false := by
        have : (k : Int) ≤ 255 := by omega
        simp only [Lib.isPrintR, if_pos this, Lib.isPrintLatin]
        simp; omega
      have b7 : ¬ (k : Int) = 7 := by omega
      have b8 : ¬ (k : Int) = 8 := by omega
      have b12 : ¬ (k : Int) = 12 := by omega
      have b10 : ¬ (k : Int) = 10 := by omega
      have b13 : ¬ (k : Int) = 13 := by omega
      have b9 : ¬ (k : Int) = 9 := by omega
      have b11 : ¬ (k : Int) = 11 := by omega
      simp only [Lib.escRune, if_neg a1, a2, if_neg b7, if_neg b8, if_neg b12, if_neg b10, if_neg b13, if_neg b9, if_neg b11, if_pos hx, Int.toNat_natCast]
      simp
    rw [hE]
    simpa [Lib.intCells, Lib.strCells, Lib.size_two, Lib.lowerhex_at, List.append_assoc] using hb)

set_option maxHeartbeats 4000000 in
set_option maxRecDepth 1000000 in
theorem esc_u4 (T : Lib.PrintTabs) (K : UCtx) (v : Value) (n : Nat) (xs : List Value) (r : Int) (w : World)
    (hb : UBuf K 5 v n xs w) (hlen : n + 10 ≤ 140737488355328) (hT : Lib.PrintTabsAt 8 9 10 11 T w) (hr0 : 0 ≤ r) (hr1 : r ≤ 1114111) (h80 : 128 ≤ r) (hlt : r < 65536) (hv : Lib.validRune r = true) (hp : Lib.isPrintR T r = false) :
    Calls Tryz.prog 261 #[v, .int .i32 r, .int .u8 34, .bool false, .bool false] w fun e w' => ∃ v', e = .returned v' ∧ UBuf K 5 v' (n + (Lib.escRune T r).length) (xs ++ Lib.intCells (Lib.escRune T r)) w' := by
  obtain ⟨i0, hi, hz0, hz1, hz2⟩ := info_parts infoB
  have cP : Calls Tryz.prog 291 #[.int .i32 r] w fun e w' => e = .returned (.bool false) ∧ ∃ q, w' = w.drewN q := by
    rw [← hp]; exact Any.strconv_IsPrint { Tryz.laysQuote with } T r w (by omega) (by omega) hT
  have cV : ∀ q, Calls Tryz.prog 294 #[.int .i32 r] (w.drewN q) fun e w' => e = .returned (.bool true) ∧ w' = w.drewN q := fun q => by
    rw [← hv]; exact Any.utf8_ValidRune { Tryz.laysQuote with } r _
  have hbq : ∀ q, UBuf K 5 v n xs (w.drewN q) := hb.drewN
  have Hp : Hid (Lib.isPrintR T r = false) := hp
  have Hv : Hid (Lib.validRune r = true) := hv
  clear hT hp hv
  have hq1 : r ≠ 34 := by omega
  have hq2 : r ≠ 92 := by omega
  obtain ⟨k, hk⟩ := Int.eq_ofNat_of_zero_le (show 0 ≤ r by omega)
  have hk31 : k < 2147483648 := by omega
  obtain ⟨d0, hd0⟩ : ∃ d, d = k / 4096 % 16 := ⟨_, rfl⟩
  have hD0 : bits .and .i32 (r / 4096) 15 = (d0 : Int) := by
    have e := Lib.and15_shift (r) k hk hk31 4096
    rw [hd0]; simpa using e
  have hL0 : d0 < 16 := by omega
  have hL0' : (d0 : Int) < 16 := by omega
  have HD0 : Hid (d0 = k / 4096 % 16) := hd0
  clear hd0
  obtain ⟨d1, hd1⟩ : ∃ d, d = k / 256 % 16 := ⟨_, rfl⟩
  have hD1 : bits .and .i32 (r / 256) 15 = (d1 : Int) := by
    have e := Lib.and15_shift (r) k hk hk31 256
    rw [hd1]; simpa using e
  have hL1 : d1 < 16 := by omega
  have hL1' : (d1 : Int) < 16 := by omega
  have HD1 : Hid (d1 = k / 256 % 16) := hd1
  clear hd1
  obtain ⟨d2, hd2⟩ : ∃ d, d = k / 16 % 16 := ⟨_, rfl⟩
  have hD2 : bits .and .i32 (r / 16) 15 = (d2 : Int) := by
    have e := Lib.and15_shift (r) k hk hk31 16
    rw [hd2]; simpa using e
  have hL2 : d2 < 16 := by omega
  have hL2' : (d2 : Int) < 16 := by omega
  have HD2 : Hid (d2 = k / 16 % 16) := hd2
  clear hd2
  obtain ⟨d3, hd3⟩ : ∃ d, d = k / 1 % 16 := ⟨_, rfl⟩
  have hD3 : bits .and .i32 (r) 15 = (d3 : Int) := by
    have e := Lib.and15_shift (r) k hk hk31 1
    rw [hd3]; simpa using e
  have hL3 : d3 < 16 := by omega
  have hL3' : (d3 : Int) < 16 := by omega
  have HD3 : Hid (d3 = k / 1 % 16) := hd3
  clear hd3
  have Hk : Hid (r = (k : Int)) := hk
  clear hk hk31
  go_enter Tryz.func261, Tryz.ntmps261
  go_big_wp2_with (first | (go_at_call 291; refine cP.mono ?_; rintro e w1 ⟨rfl, q1, rfl⟩; have hb1 := hbq q1) | (go_at_call 294; refine (cV _).mono ?_; rintro e w2 ⟨rfl, rfl⟩) | (at_builtin; first
      | (refine wpList_append_byteU rfl _ _ 62 rfl K 5 i0 Tryz.underlying62 hi hz0 hz1 hz2 _ _ _ rfl _ _ (by assumption) rfl (by first | omega | (simp only [Lib.size_two]; omega)) ?_; intro _ _ hb)
      | (refine wpList_append_textU rfl _ _ 62 9 rfl K 5 i0 Tryz.underlying62 Tryz.underlying9 hi hz0 hz1 hz2 _ _ _ rfl (by assumption) _ rfl (by first | omega | (simp only [Lib.size_two]; omega)) ?_; intro _ _ hb)))
  refine wp_loop_rounds 5 ?_
  rw [rounds_succ]
  go_big_wp2_with (at_builtin; first
      | (refine wpList_append_byteU rfl _ _ 62 rfl K 5 i0 Tryz.underlying62 hi hz0 hz1 hz2 _ _ _ rfl _ _ (by assumption) rfl (by first | omega | (simp only [Lib.size_two]; omega)) ?_; intro _ _ hb)
      | (refine wpList_append_textU rfl _ _ 62 9 rfl K 5 i0 Tryz.underlying62 Tryz.underlying9 hi hz0 hz1 hz2 _ _ _ rfl (by assumption) _ rfl (by first | omega | (simp only [Lib.size_two]; omega)) ?_; intro _ _ hb))
  rw [rounds_succ]
  go_big_wp2_with (at_builtin; first
      | (refine wpList_append_byteU rfl _ _ 62 rfl K 5 i0 Tryz.underlying62 hi hz0 hz1 hz2 _ _ _ rfl _ _ (by assumption) rfl (by first | omega | (simp only [Lib.size_two]; omega)) ?_; intro _ _ hb)
      | (refine wpList_append_textU rfl _ _ 62 9 rfl K 5 i0 Tryz.underlying62 Tryz.underlying9 hi hz0 hz1 hz2 _ _ _ rfl (by assumption) _ rfl (by first | omega | (simp only [Lib.size_two]; omega)) ?_; intro _ _ hb))
  rw [rounds_succ]
  go_big_wp2_with (at_builtin; first
      | (refine wpList_append_byteU rfl _ _ 62 rfl K 5 i0 Tryz.underlying62 hi hz0 hz1 hz2 _ _ _ rfl _ _ (by assumption) rfl (by first | omega | (simp only [Lib.size_two]; omega)) ?_; intro _ _ hb)
      | (refine wpList_append_textU rfl _ _ 62 9 rfl K 5 i0 Tryz.underlying62 Tryz.underlying9 hi hz0 hz1 hz2 _ _ _ rfl (by assumption) _ rfl (by first | omega | (simp only [Lib.size_two]; omega)) ?_; intro _ _ hb))
  rw [rounds_succ]
  go_big_wp2_with (at_builtin; first
      | (refine wpList_append_byteU rfl _ _ 62 rfl K 5 i0 Tryz.underlying62 hi hz0 hz1 hz2 _ _ _ rfl _ _ (by assumption) rfl (by first | omega | (simp only [Lib.size_two]; omega)) ?_; intro _ _ hb)
      | (refine wpList_append_textU rfl _ _ 62 9 rfl K 5 i0 Tryz.underlying62 Tryz.underlying9 hi hz0 hz1 hz2 _ _ _ rfl (by assumption) _ rfl (by first | omega | (simp only [Lib.size_two]; omega)) ?_; intro _ _ hb))
  rw [rounds_succ]
  go_big_wp2_with (at_builtin; first
      | (refine wpList_append_byteU rfl _ _ 62 rfl K 5 i0 Tryz.underlying62 hi hz0 hz1 hz2 _ _ _ rfl _ _ (by assumption) rfl (by first | omega | (simp only [Lib.size_two]; omega)) ?_; intro _ _ hb)
      | (refine wpList_append_textU rfl _ _ 62 9 rfl K 5 i0 Tryz.underlying62 Tryz.underlying9 hi hz0 hz1 hz2 _ _ _ rfl (by assumption) _ rfl (by first | omega | (simp only [Lib.size_two]; omega)) ?_; intro _ _ hb))
  go_ret
  refine ⟨_, rfl, ?_⟩
  have hE : Lib.escRune T r = 92 :: 117 :: Lib.hexDigits k 4 := by
    have a1 : ¬ (r = 34 ∨ r = 92) := by omega
    have b7 : ¬ r = 7 := by omega
    have b8 : ¬ r = 8 := by omega
    have b12 : ¬ r = 12 := by omega
    have b10 : ¬ r = 10 := by omega
    have b13 : ¬ r = 13 := by omega
    have b9 : ¬ r = 9 := by omega
    have b11 : ¬ r = 11 := by omega
    have bx : ¬ (r < 32 ∨ r = 127) := by omega
    have hlt' : r < 65536 := by omega
    have hkn : r.toNat = k := by rw [Hk.out]; simp
    simp only [Lib.escRune, if_neg a1, Hp.out, Hv.out, if_neg b7, if_neg b8, if_neg b12, if_neg b10, if_neg b13, if_neg b9, if_neg b11, if_neg bx, if_pos hlt', hkn]
    simp
  rw [hE]
  simpa [Lib.intCells, Lib.strCells, Lib.size_two, Lib.lowerhex_at, Lib.hexDigits, List.append_assoc, HD0.out, HD1.out, HD2.out, HD3.out] using hb

set_option maxHeartbeats 4000000 in
set_option maxRecDepth 1000000 in
theorem esc_u8 (T : Lib.PrintTabs) (K : UCtx) (v : Value) (n : Nat) (xs : List Value) (r : Int) (w : World)
    (hb : UBuf K 5 v n xs w) (hlen : n + 10 ≤ 140737488355328) (hT : Lib.PrintTabsAt 8 9 10 11 T w) (hr0 : 0 ≤ r) (hr1 : r ≤ 1114111) (h80 : 65536 ≤ r) (hv : Lib.validRune r = true) (hp : Lib.isPrintR T r = false) :
    Calls Tryz.prog 261 #[v, .int .i32 r, .int .u8 34, .bool false, .bool false] w fun e w' => ∃ v', e = .returned v' ∧ UBuf K 5 v' (n + (Lib.escRune T r).length) (xs ++ Lib.intCells (Lib.escRune T r)) w' := by
  obtain ⟨i0, hi, hz0, hz1, hz2⟩ := info_parts infoB
  have cP : Calls Tryz.prog 291 #[.int .i32 r] w fun e w' => e = .returned (.bool false) ∧ ∃ q, w' = w.drewN q := by
    rw [← hp]; exact Any.strconv_IsPrint { Tryz.laysQuote with } T r w (by omega) (by omega) hT
  have cV : ∀ q, Calls Tryz.prog 294 #[.int .i32 r] (w.drewN q) fun e w' => e = .returned (.bool true) ∧ w' = w.drewN q := fun q => by
    rw [← hv]; exact Any.utf8_ValidRune { Tryz.laysQuote with } r _
  have hbq : ∀ q, UBuf K 5 v n xs (w.drewN q) := hb.drewN
  have Hp : Hid (Lib.isPrintR T r = false) := hp
  have Hv : Hid (Lib.validRune r = true) := hv
  clear hT hp hv
  have hq1 : r ≠ 34 := by omega
  have hq2 : r ≠ 92 := by omega
  obtain ⟨k, hk⟩ := Int.eq_ofNat_of_zero_le (show 0 ≤ r by omega)
  have hk31 : k < 2147483648 := by omega
  obtain ⟨d0, hd0⟩ : ∃ d, d = k / 268435456 % 16 := ⟨_, rfl⟩
  have hD0 : bits .and .i32 (r / 268435456) 15 = (d0 : Int) := by
    have e := Lib.and15_shift (r) k hk hk31 268435456
    rw [hd0]; simpa using e
  have hL0 : d0 < 16 := by omega
  have hL0' : (d0 : Int) < 16 := by omega
  have HD0 : Hid (d0 = k / 268435456 % 16) := hd0
  clear hd0
  obtain ⟨d1, hd1⟩ : ∃ d, d = k / 16777216 % 16 := ⟨_, rfl⟩
  have hD1 : bits .and .i32 (r / 16777216) 15 = (d1 : Int) := by
    have e := Lib.and15_shift (r) k hk hk31 16777216
    rw [hd1]; simpa using e
  have hL1 : d1 < 16 := by omega
  have hL1' : (d1 : Int) < 16 := by omega
  have HD1 : Hid (d1 = k / 16777216 % 16) := hd1
  clear hd1
  obtain ⟨d2, hd2⟩ : ∃ d, d = k / 1048576 % 16 := ⟨_, rfl⟩
  have hD2 : bits .and .i32 (r / 1048576) 15 = (d2 : Int) := by
    have e := Lib.and15_shift (r) k hk hk31 1048576
    rw [hd2]; simpa using e
  have hL2 : d2 < 16 := by omega
  have hL2' : (d2 : Int) < 16 := by omega
  have HD2 : Hid (d2 = k / 1048576 % 16) := hd2
  clear hd2
  obtain ⟨d3, hd3⟩ : ∃ d, d = k / 65536 % 16 := ⟨_, rfl⟩
  have hD3 : bits .and .i32 (r / 65536) 15 = (d3 : Int) := by
    have e := Lib.and15_shift (r) k hk hk31 65536
    rw [hd3]; simpa using e
  have hL3 : d3 < 16 := by omega
  have hL3' : (d3 : Int) < 16 := by omega
  have HD3 : Hid (d3 = k / 65536 % 16) := hd3
  clear hd3
  obtain ⟨d4, hd4⟩ : ∃ d, d = k / 4096 % 16 := ⟨_, rfl⟩
  have hD4 : bits .and .i32 (r / 4096) 15 = (d4 : Int) := by
    have e := Lib.and15_shift (r) k hk hk31 4096
    rw [hd4]; simpa using e
  have hL4 : d4 < 16 := by omega
  have hL4' : (d4 : Int) < 16 := by omega
  have HD4 : Hid (d4 = k / 4096 % 16) := hd4
  clear hd4
  obtain ⟨d5, hd5⟩ : ∃ d, d = k / 256 % 16 := ⟨_, rfl⟩
  have hD5 : bits .and .i32 (r / 256) 15 = (d5 : Int) := by
    have e := Lib.and15_shift (r) k hk hk31 256
    rw [hd5]; simpa using e
  have hL5 : d5 < 16 := by omega
  have hL5' : (d5 : Int) < 16 := by omega
  have HD5 : Hid (d5 = k / 256 % 16) := hd5
  clear hd5
  obtain ⟨d6, hd6⟩ : ∃ d, d = k / 16 % 16 := ⟨_, rfl⟩
  have hD6 : bits .and .i32 (r / 16) 15 = (d6 : Int) := by
    have e := Lib.and15_shift (r) k hk hk31 16
    rw [hd6]; simpa using e
  have hL6 : d6 < 16 := by omega
  have hL6' : (d6 : Int) < 16 := by omega
  have HD6 : Hid (d6 = k / 16 % 16) := hd6
  clear hd6
  obtain ⟨d7, hd7⟩ : ∃ d, d = k / 1 % 16 := ⟨_, rfl⟩
  have hD7 : bits .and .i32 (r) 15 = (d7 : Int) := by
    have e := Lib.and15_shift (r) k hk hk31 1
    rw [hd7]; simpa using e
  have hL7 : d7 < 16 := by omega
  have hL7' : (d7 : Int) < 16 := by omega
  have HD7 : Hid (d7 = k / 1 % 16) := hd7
  clear hd7
  have Hk : Hid (r = (k : Int)) := hk
  clear hk hk31
  go_enter Tryz.func261, Tryz.ntmps261
  go_big_wp2_with (first | (go_at_call 291; refine cP.mono ?_; rintro e w1 ⟨rfl, q1, rfl⟩; have hb1 := hbq q1) | (go_at_call 294; refine (cV _).mono ?_; rintro e w2 ⟨rfl, rfl⟩) | (at_builtin; first
      | (refine wpList_append_byteU rfl _ _ 62 rfl K 5 i0 Tryz.underlying62 hi hz0 hz1 hz2 _ _ _ rfl _ _ (by assumption) rfl (by first | omega | (simp only [Lib.size_two]; omega)) ?_; intro _ _ hb)
      | (refine wpList_append_textU rfl _ _ 62 9 rfl K 5 i0 Tryz.underlying62 Tryz.underlying9 hi hz0 hz1 hz2 _ _ _ rfl (by assumption) _ rfl (by first | omega | (simp only [Lib.size_two]; omega)) ?_; intro _ _ hb)))
  refine wp_loop_rounds 9 ?_
  rw [rounds_succ]
  go_big_wp2_with (at_builtin; first
      | (refine wpList_append_byteU rfl _ _ 62 rfl K 5 i0 Tryz.underlying62 hi hz0 hz1 hz2 _ _ _ rfl _ _ (by assumption) rfl (by first | omega | (simp only [Lib.size_two]; omega)) ?_; intro _ _ hb)
      | (refine wpList_append_textU rfl _ _ 62 9 rfl K 5 i0 Tryz.underlying62 Tryz.underlying9 hi hz0 hz1 hz2 _ _ _ rfl (by assumption) _ rfl (by first | omega | (simp only [Lib.size_two]; omega)) ?_; intro _ _ hb))
  rw [rounds_succ]
  go_big_wp2_with (at_builtin; first
      | (refine wpList_append_byteU rfl _ _ 62 rfl K 5 i0 Tryz.underlying62 hi hz0 hz1 hz2 _ _ _ rfl _ _ (by assumption) rfl (by first | omega | (simp only [Lib.size_two]; omega)) ?_; intro _ _ hb)
      | (refine wpList_append_textU rfl _ _ 62 9 rfl K 5 i0 Tryz.underlying62 Tryz.underlying9 hi hz0 hz1 hz2 _ _ _ rfl (by assumption) _ rfl (by first | omega | (simp only [Lib.size_two]; omega)) ?_; intro _ _ hb))
  rw [rounds_succ]
  go_big_wp2_with (at_builtin; first
      | (refine wpList_append_byteU rfl _ _ 62 rfl K 5 i0 Tryz.underlying62 hi hz0 hz1 hz2 _ _ _ rfl _ _ (by assumption) rfl (by first | omega | (simp only [Lib.size_two]; omega)) ?_; intro _ _ hb)
      | (refine wpList_append_textU rfl _ _ 62 9 rfl K 5 i0 Tryz.underlying62 Tryz.underlying9 hi hz0 hz1 hz2 _ _ _ rfl (by assumption) _ rfl (by first | omega | (simp only [Lib.size_two]; omega)) ?_; intro _ _ hb))
  rw [rounds_succ]
  go_big_wp2_with (at_builtin; first
      | (refine wpList_append_byteU rfl _ _ 62 rfl K 5 i0 Tryz.underlying62 hi hz0 hz1 hz2 _ _ _ rfl _ _ (by assumption) rfl (by first | omega | (simp only [Lib.size_two]; omega)) ?_; intro _ _ hb)
      | (refine wpList_append_textU rfl _ _ 62 9 rfl K 5 i0 Tryz.underlying62 Tryz.underlying9 hi hz0 hz1 hz2 _ _ _ rfl (by assumption) _ rfl (by first | omega | (simp only [Lib.size_two]; omega)) ?_; intro _ _ hb))
  rw [rounds_succ]
  go_big_wp2_with (at_builtin; first
      | (refine wpList_append_byteU rfl _ _ 62 rfl K 5 i0 Tryz.underlying62 hi hz0 hz1 hz2 _ _ _ rfl _ _ (by assumption) rfl (by first | omega | (simp only [Lib.size_two]; omega)) ?_; intro _ _ hb)
      | (refine wpList_append_textU rfl _ _ 62 9 rfl K 5 i0 Tryz.underlying62 Tryz.underlying9 hi hz0 hz1 hz2 _ _ _ rfl (by assumption) _ rfl (by first | omega | (simp only [Lib.size_two]; omega)) ?_; intro _ _ hb))
  rw [rounds_succ]
  go_big_wp2_with (at_builtin; first
      | (refine wpList_append_byteU rfl _ _ 62 rfl K 5 i0 Tryz.underlying62 hi hz0 hz1 hz2 _ _ _ rfl _ _ (by assumption) rfl (by first | omega | (simp only [Lib.size_two]; omega)) ?_; intro _ _ hb)
      | (refine wpList_append_textU rfl _ _ 62 9 rfl K 5 i0 Tryz.underlying62 Tryz.underlying9 hi hz0 hz1 hz2 _ _ _ rfl (by assumption) _ rfl (by first | omega | (simp only [Lib.size_two]; omega)) ?_; intro _ _ hb))
  rw [rounds_succ]
  go_big_wp2_with (at_builtin; first
      | (refine wpList_append_byteU rfl _ _ 62 rfl K 5 i0 Tryz.underlying62 hi hz0 hz1 hz2 _ _ _ rfl _ _ (by assumption) rfl (by first | omega | (simp only [Lib.size_two]; omega)) ?_; intro _ _ hb)
      | (refine wpList_append_textU rfl _ _ 62 9 rfl K 5 i0 Tryz.underlying62 Tryz.underlying9 hi hz0 hz1 hz2 _ _ _ rfl (by assumption) _ rfl (by first | omega | (simp only [Lib.size_two]; omega)) ?_; intro _ _ hb))
  rw [rounds_succ]
  go_big_wp2_with (at_builtin; first
      | (refine wpList_append_byteU rfl _ _ 62 rfl K 5 i0 Tryz.underlying62 hi hz0 hz1 hz2 _ _ _ rfl _ _ (by assumption) rfl (by first | omega | (simp only [Lib.size_two]; omega)) ?_; intro _ _ hb)
      | (refine wpList_append_textU rfl _ _ 62 9 rfl K 5 i0 Tryz.underlying62 Tryz.underlying9 hi hz0 hz1 hz2 _ _ _ rfl (by assumption) _ rfl (by first | omega | (simp only [Lib.size_two]; omega)) ?_; intro _ _ hb))
  rw [rounds_succ]
  go_big_wp2_with (at_builtin; first
      | (refine wpList_append_byteU rfl _ _ 62 rfl K 5 i0 Tryz.underlying62 hi hz0 hz1 hz2 _ _ _ rfl _ _ (by assumption) rfl (by first | omega | (simp only [Lib.size_two]; omega)) ?_; intro _ _ hb)
      | (refine wpList_append_textU rfl _ _ 62 9 rfl K 5 i0 Tryz.underlying62 Tryz.underlying9 hi hz0 hz1 hz2 _ _ _ rfl (by assumption) _ rfl (by first | omega | (simp only [Lib.size_two]; omega)) ?_; intro _ _ hb))
  go_ret
  refine ⟨_, rfl, ?_⟩
  have hE : Lib.escRune T r = 92 :: 85 :: Lib.hexDigits k 8 := by
    have a1 : ¬ (r = 34 ∨ r = 92) := by omega
    have b7 : ¬ r = 7 := by omega
    have b8 : ¬ r = 8 := by omega
    have b12 : ¬ r = 12 := by omega
    have b10 : ¬ r = 10 := by omega
    have b13 : ¬ r = 13 := by omega
    have b9 : ¬ r = 9 := by omega
    have b11 : ¬ r = 11 := by omega
    have bx : ¬ (r < 32 ∨ r = 127) := by omega
    have hlt' : ¬ r < 65536 := by omega
    have hkn : r.toNat = k := by rw [Hk.out]; simp
    simp only [Lib.escRune, if_neg a1, Hp.out, Hv.out, if_neg b7, if_neg b8, if_neg b12, if_neg b10, if_neg b13, if_neg b9, if_neg b11, if_neg bx, if_neg hlt', hkn]
    simp
  rw [hE]
  simpa [Lib.intCells, Lib.strCells, Lib.size_two, Lib.lowerhex_at, Lib.hexDigits, List.append_assoc, HD0.out, HD1.out, HD2.out, HD3.out, HD4.out, HD5.out, HD6.out, HD7.out] using hb

/-- strconv.appendEscapedRune at every rune. -/
theorem esc_calls (T : Lib.PrintTabs) (K : UCtx) (v : Value) (n : Nat) (xs : List Value) (r : Int) (w : World)
    (hb : UBuf K 5 v n xs w) (hlen : n + 10 ≤ 140737488355328) (hT : Lib.PrintTabsAt 8 9 10 11 T w) (hv : Lib.validRune r = true) :
    Calls Tryz.prog 261 #[v, .int .i32 r, .int .u8 34, .bool false, .bool false] w fun e w' => ∃ v', e = .returned v' ∧ UBuf K 5 v' (n + (Lib.escRune T r).length) (xs ++ Lib.intCells (Lib.escRune T r)) w' := by
  have hr : 0 ≤ r ∧ r ≤ 1114111 := by
    have := hv; simp [Lib.validRune] at this; omega
  have hr0 := hr.1
  have hr1 := hr.2
  by_cases hq : r = 34 ∨ r = 92
  · exact esc_quoted T K v n xs r w hb hlen hT hr0 hr1 hq
  by_cases hp : Lib.isPrintR T r = true
  · exact esc_print T K v n xs r w hb hlen hT hr0 hr1 (by omega) (by omega) hp
  have hp' : Lib.isPrintR T r = false := by simpa using hp
  by_cases hn : r = 7 ∨ r = 8 ∨ r = 12 ∨ r = 10 ∨ r = 13 ∨ r = 9 ∨ r = 11
  · exact esc_named T K v n xs r w hb hlen hT hr0 hr1 hn
  by_cases hx : r < 32 ∨ r = 127
  · exact esc_hex2 T K v n xs r w hb hlen hT hr0 hr1 hx hn
  have h80 : 128 ≤ r := by
    by_cases h : r ≤ 126
    · exfalso
      have : Lib.isPrintR T r = true := by
        have a : r ≤ 255 := by omega
        simp only [Lib.isPrintR, if_pos a, Lib.isPrintLatin]
        simp; omega
      rw [this] at hp'; cases hp'
    · omega
  by_cases hlt : r < 65536
  · exact esc_u4 T K v n xs r w hb hlen hT hr0 hr1 h80 hlt hv hp'
  · exact esc_u8 T K v n xs r w hb hlen hT hr0 hr1 (by omega) hv hp'
end Go.Proofs.YtobbfenkdnaanaaGreatDoor

namespace Go.Proofs.YtobbfenkdnaanaaGreatDoor
open Go.RowKit Go.Proofs

set_option maxHeartbeats 4000000 in
set_option maxRecDepth 1000000 in
/-- There is room for the text's own letters. -/
theorem quoted_room (T : Lib.PrintTabs) (K : UCtx) (s : ByteArray) (hroom : s.size ≤ K.C) (hC : K.C ≤ 9223372036854775807) (hlen : 10 * s.size + 12 ≤ 140737488355328)
    (hT : Lib.PrintTabsAt 8 9 10 11 T K.W0) (hU : Lib.Utf8Tabs 0 1 K.W0) :
    Calls Tryz.prog 206 #[.slice K.ao 0 K.C, .string s, .int .u8 34, .bool false, .bool false] K.W fun e w' => ∃ v', e = .returned v' ∧ UBuf K 5 v' (Lib.quoteZ T s).length (Lib.intCells (Lib.quoteZ T s)) w' := by
  obtain ⟨i0, hi, hz0, hz1, hz2⟩ := info_parts infoB
  have hb := UBuf.start K 5
  have HT : Hid (Lib.PrintTabsAt 8 9 10 11 T K.W0) := hT
  have HU : Hid (Lib.Utf8Tabs 0 1 K.W0) := hU
  have hroom' : ¬ ((K.C : Int) < (s.size : Int)) := by omega
  clear hT hU
  go_enter Tryz.func206, Tryz.ntmps206
  go_big_wp2_with (at_builtin; first
      | (refine wpList_append_byteU rfl _ _ 62 rfl K 5 i0 Tryz.underlying62 hi hz0 hz1 hz2 _ _ _ rfl _ _ (by assumption) rfl (by first | omega | (simp only [Lib.size_two]; omega)) ?_; intro _ _ hb)
      | (refine wpList_append_textU rfl _ _ 62 9 rfl K 5 i0 Tryz.underlying62 Tryz.underlying9 hi hz0 hz1 hz2 _ _ _ rfl (by assumption) _ rfl (by first | omega | (simp only [Lib.size_two]; omega)) ?_; intro _ _ hb))
  have Hb0 : Hid (UBuf K 5 _ _ _ _) := hb
  go_loopw [0, 1, 12, 13] (fun vb vs _ _ wr => ∃ (rest : ByteArray) (acc : List Int) (f : Nat), vs = .string rest ∧ rest.size ≤ f ∧ Hid (UBuf K 5 vb (1 + acc.length) ([.int .u8 34] ++ Lib.intCells acc) wr) ∧ Hid (acc ++ Lib.quoteFrom T f rest = Lib.quoteFrom T s.size s) ∧ acc.length + 10 * rest.size ≤ 10 * s.size)
    (fun _ vs _ _ _ => match vs with | .string r => r.size | _ => 0)
  case atStart => exact ⟨s, [], s.size, rfl, Nat.le_refl _, by simpa [Hid, Lib.intCells] using Hb0.out, rfl, by simp⟩
  case round =>
    obtain ⟨rest, acc, f, rfl, hf, hbr, hq, hl⟩ := hrel
    have hBel : Below K.W0.heap.size K.W0 wr := hbr.out.below
    by_cases h0 : 0 < rest.size
    · have h0' : (0 : Int) < (rest.size : Int) := by omega
      obtain ⟨R, hR⟩ : ∃ R, R = (Utf8.decode rest 0).1 := ⟨_, rfl⟩
      obtain ⟨D, hD⟩ : ∃ D, D = (Utf8.decode rest 0).2 := ⟨_, rfl⟩
      have hD1 : 1 ≤ D := by rw [hD]; exact Lib.width_pos _ _
      have hD2 : D ≤ rest.size := by rw [hD]; exact Lib.width_le _ h0
      have hRv : Lib.validRune (R : Int) = true := by rw [hR]; exact Lib.rune_valid _
      have cD : Calls Tryz.prog 260 #[.string rest] wr fun e w' => e = .returned (.tuple #[.int .i32 R, .int .i64 D]) ∧ Below wr.heap.size wr w' := by
        have e : Lib.decodeGo rest = (R, D) := by
          have hne : ¬ rest.size = 0 := by omega
          rw [hR, hD]; simp [Lib.decodeGo, hne]
        have := Any.utf8_DecodeRuneInString { Tryz.laysQuote with } rest wr (Utf8Tabs_below HU.out hBel)
        rwa [e] at this
      have HR : Hid (R = (Utf8.decode rest 0).1) := hR
      have HD : Hid (D = (Utf8.decode rest 0).2) := hD
      clear hR hD hBel
      go_big_wp2_with fail
      refine cD.mono ?_
      rintro e w1 ⟨rfl, hbl⟩
      have hb1 := hbr.out.later hbl
      have hT1 : Lib.PrintTabsAt 8 9 10 11 T w1 := printTabs_below HT.out hb1.below
      have hlenA : 1 + acc.length + 10 ≤ 140737488355328 := by omega
      have hsz : (rest.extract D rest.size).size = rest.size - D := Lib.size_rest rest D
      by_cases hbad : D = 1 ∧ R = 65533
      · obtain ⟨rfl, rfl⟩ := hbad
        have hx255 := UInt8.toNat_lt (rest[0]'h0)
        have hx16 : 0 ≤ (((rest[0]'h0).toNat : Nat) : Int) / 16 ∧ (((rest[0]'h0).toNat : Nat) : Int) / 16 < 16 := by omega
        have hst := Lib.quoteStep_bad T rest h0 HD.out HR.out
        go_big_wp2_with (at_builtin; first
      | (refine wpList_append_byteU rfl _ _ 62 rfl K 5 i0 Tryz.underlying62 hi hz0 hz1 hz2 _ _ _ rfl _ _ (by assumption) rfl (by first | omega | (simp only [Lib.size_two]; omega)) ?_; intro _ _ hb)
      | (refine wpList_append_textU rfl _ _ 62 9 rfl K 5 i0 Tryz.underlying62 Tryz.underlying9 hi hz0 hz1 hz2 _ _ _ rfl (by assumption) _ rfl (by first | omega | (simp only [Lib.size_two]; omega)) ?_; intro _ _ hb))
        go_roundw
        case rel =>
          refine ⟨_, acc ++ Lib.quoteStep T rest, f - 1, rfl, by omega, ?_, ?_, ?_⟩
          · rw [hst]
            simpa [Hid, Lib.intCells, Lib.strCells, Lib.size_two, Lib.lowerhex_at, List.append_assoc, Nat.add_assoc] using hb
          · show acc ++ Lib.quoteStep T rest ++ Lib.quoteFrom T (f - 1) (rest.extract 1 rest.size) = _
            rw [← hq.out, Lib.quoteFrom_step T f rest h0 hf, ← HD.out, List.append_assoc]
          · have := Lib.quoteStep_length_le T rest
            simp only [List.length_append]; omega
        case measure => simp only []; omega
      · have hst : Lib.quoteStep T rest = Lib.escRune T (R : Int) := by
          rw [HR.out]; exact Lib.quoteStep_good T rest (by rw [← HD.out, ← HR.out]; exact hbad)
        have cE : Calls Tryz.prog 261 #[_, .int .i32 R, .int .u8 34, .bool false, .bool false] w1 fun e w' => ∃ v', e = .returned v' ∧ UBuf K 5 v' (1 + acc.length + (Lib.escRune T R).length) ([.int .u8 34] ++ Lib.intCells acc ++ Lib.intCells (Lib.escRune T R)) w' :=
          esc_calls T K _ _ _ R w1 hb1 hlenA hT1 hRv
        clear hT1 hRv
        by_cases hD1e : D = 1
        · subst hD1e
          have hR' : ¬ (R : Int) = 65533 := by omega
          go_big_wp2_with (go_at_call 261; refine cE.mono ?_; rintro e w2 ⟨v2, rfl, hb2⟩)
          all_goals (
            go_roundw
            case rel =>
              refine ⟨_, acc ++ Lib.quoteStep T rest, f - 1, rfl, by omega, ?_, ?_, ?_⟩
              · rw [hst]
                simpa [Hid, Lib.intCells, List.append_assoc, Nat.add_assoc] using hb2
              · show acc ++ Lib.quoteStep T rest ++ Lib.quoteFrom T (f - 1) (rest.extract 1 rest.size) = _
                rw [← hq.out, Lib.quoteFrom_step T f rest h0 hf, ← HD.out, List.append_assoc]
              · have := Lib.quoteStep_length_le T rest
                simp only [List.length_append]; omega
            case measure => simp only []; omega)
        · have hD2' : (D : Int) ≤ (rest.size : Int) := by omega
          have hD1' : ¬ (D : Int) = 1 := by omega
          go_big_wp2_with (go_at_call 261; refine cE.mono ?_; rintro e w2 ⟨v2, rfl, hb2⟩)
          all_goals (
            go_roundw
            case rel =>
              refine ⟨_, acc ++ Lib.quoteStep T rest, f - 1, rfl, by omega, ?_, ?_, ?_⟩
              · rw [hst]
                simpa [Hid, Lib.intCells, List.append_assoc, Nat.add_assoc] using hb2
              · show acc ++ Lib.quoteStep T rest ++ Lib.quoteFrom T (f - 1) (rest.extract D rest.size) = _
                rw [← hq.out, Lib.quoteFrom_step T f rest h0 hf, ← HD.out, List.append_assoc]
              · have := Lib.quoteStep_length_le T rest
                simp only [List.length_append]; omega
            case measure => simp only []; omega)
    · have h0' : ¬ (0 : Int) < (rest.size : Int) := by omega
      have hbx := hbr.out
      have hlenA : 1 + acc.length + 10 ≤ 140737488355328 := by omega
      go_big_wp2_with (at_builtin; first
      | (refine wpList_append_byteU rfl _ _ 62 rfl K 5 i0 Tryz.underlying62 hi hz0 hz1 hz2 _ _ _ rfl _ _ (by assumption) rfl (by first | omega | (simp only [Lib.size_two]; omega)) ?_; intro _ _ hb)
      | (refine wpList_append_textU rfl _ _ 62 9 rfl K 5 i0 Tryz.underlying62 Tryz.underlying9 hi hz0 hz1 hz2 _ _ _ rfl (by assumption) _ rfl (by first | omega | (simp only [Lib.size_two]; omega)) ?_; intro _ _ hb))
      go_ret
      have hqe : Lib.quoteFrom T s.size s = acc := by rw [← hq.out, Lib.quoteFrom_end T f rest h0]; simp
      have hlenq : (Lib.quoteZ T s).length = 1 + acc.length + 1 := by simp [Lib.quoteZ, hqe]; omega
      have hcells : Lib.intCells (Lib.quoteZ T s) = [.int .u8 34] ++ Lib.intCells acc ++ [.int .u8 34] := by simp [Lib.quoteZ, hqe, Lib.intCells]
      exact ⟨_, rfl, by rw [hlenq, hcells]; exact hb⟩

theorem fresh_ctx (W0 w w1 : World) (n : Nat) (hb0 : Below W0.heap.size W0 w) (hown : w1.ownsRow w.heap.size 5 1 (.slice (some ⟨w.heap.size, 0, none⟩) 0 n) 0 []) (hg : w.grownBy w1 none) (hn : 0 < n) :
    ∃ K : UCtx, K.W0 = W0 ∧ K.g = w.heap.size ∧ Below w.heap.size w K.W ∧ UBuf K 5 (.slice (some ⟨w.heap.size, 0, none⟩) 0 n) 0 [] w1 := by
  have hb1 : Below w.heap.size w w1 := (Below.refl w.heap.size w).grown hg (Nat.le_refl _) (fun k hk => by cases hk)
  rcases hown.2 with ⟨h, _⟩ | ⟨g, cap, cur, hv, _, hgc, _, _, hcs, _⟩
  · cases h
  · simp only [Value.slice.injEq, Option.some.injEq, Addr.mk.injEq, true_and, and_true] at hv
    obtain ⟨rfl, rfl⟩ := hv
    have hlt := Lib.lt_of_heap hgc
    have hcame : Came w1 1 (some ⟨w.heap.size, 0, none⟩) w.heap.size 0 0 n [] := by
      refine ⟨Nat.zero_le _, fun _ => rfl, fun _ => hlt, rfl, fun j u hj => (by cases j <;> cases hj), fun j hj => ⟨?_, Lib.frozen_of_heap hgc _⟩⟩
      rw [Lib.cell_of_heap hgc, Array.getElem?_eq_getElem (by omega)]
      rfl
    let K : UCtx := ⟨W0, w1, some ⟨w.heap.size, 0, none⟩, w.heap.size, 0, n, hb0.trans (hb1.mono hb0.size), hb0.size, hcame⟩
    exact ⟨K, rfl, rfl, hb1, UBuf.start K 5⟩

set_option maxHeartbeats 4000000 in
set_option maxRecDepth 1000000 in
/-- There is no room for the text's own letters: a row is made. -/
theorem quoted_none (T : Lib.PrintTabs) (W0 w : World) (ao : Option Addr) (C : Nat) (s : ByteArray) (hroom : C < s.size) (hlen : 10 * s.size + 12 ≤ 140737488355328) (hb0 : Below W0.heap.size W0 w)
    (hT : Lib.PrintTabsAt 8 9 10 11 T W0) (hU : Lib.Utf8Tabs 0 1 W0) :
    Calls Tryz.prog 206 #[.slice ao 0 C, .string s, .int .u8 34, .bool false, .bool false] w fun e w' => ∃ v', e = .returned v' ∧ Aside0 (∃ K : UCtx, K.W0 = W0 ∧ K.g = w.heap.size ∧ Below w.heap.size w K.W ∧ UBuf K 5 v' (Lib.quoteZ T s).length (Lib.intCells (Lib.quoteZ T s)) w') := by
  obtain ⟨i0, hi, hz0, hz1, hz2⟩ := info_parts infoB
  have hinfo : (Tryz.prog.info? 5).map (·.size) = some 1 := by rw [hi]; simp [hz1]
  have hcp : ∀ W, (Builtin.copy_ #[62, 62] 3 #[.slice (some ⟨w.heap.size, 0, none⟩) 0 (s.size + 2), .slice ao 0 C]).run Tryz.prog W = .ok (goInt 0) W := fun W => run_copy_none W 62 62 3 5 _ _ _ _ _ _ Tryz.underlying62 hinfo rfl
  have HTU : Hid (Lib.PrintTabsAt 8 9 10 11 T W0 ∧ Lib.Utf8Tabs 0 1 W0 ∧ Below W0.heap.size W0 w) := ⟨hT, hU, hb0⟩
  have hroom' : (C : Int) < (s.size : Int) := by omega
  clear hT hU hb0
  go_enter Tryz.func206, Tryz.ntmps206
  go_big_wp2_with (first
    | (at_make; refine wpList_make_own _ rfl _ _ 62 rfl w.heap.size 5 i0 (.int .u8 0) 1 Tryz.underlying62 hi hz0 hz1 _ _ _ (s.size + 2) rfl rfl (by omega) (by rw [hz2]; omega) (by unfold maxLen; omega) (Nat.le_refl _) ?_; intro w1 hown hg; obtain ⟨K, hK0, hKg, hKb, hb⟩ := fresh_ctx W0 w w1 (s.size + 2) HTU.out.2.2 hown hg (by omega))
    | (at_builtin; first
      | (refine wpList_append_byteU rfl _ _ 62 rfl K 5 i0 Tryz.underlying62 hi hz0 hz1 hz2 _ _ _ rfl _ _ (by assumption) rfl (by first | omega | (simp only [Lib.size_two]; omega)) ?_; intro _ _ hb)
      | (refine wpList_append_textU rfl _ _ 62 9 rfl K 5 i0 Tryz.underlying62 Tryz.underlying9 hi hz0 hz1 hz2 _ _ _ rfl (by assumption) _ rfl (by first | omega | (simp only [Lib.size_two]; omega)) ?_; intro _ _ hb)))
  have Hb0 : Hid (UBuf K 5 _ _ _ _) := hb
  have HK : Hid (K.W0 = W0 ∧ K.g = w.heap.size ∧ Below w.heap.size w K.W) := ⟨hK0, hKg, hKb⟩
  have HT : Hid (Lib.PrintTabsAt 8 9 10 11 T K.W0) := by rw [hK0]; exact HTU.out.1
  have HU : Hid (Lib.Utf8Tabs 0 1 K.W0) := by rw [hK0]; exact HTU.out.2.1
  clear hK0 hKg hKb
  go_loopw [0, 1, 12, 13] (fun vb vs _ _ wr => ∃ (rest : ByteArray) (acc : List Int) (f : Nat), vs = .string rest ∧ rest.size ≤ f ∧ Hid (UBuf K 5 vb (1 + acc.length) ([.int .u8 34] ++ Lib.intCells acc) wr) ∧ Hid (acc ++ Lib.quoteFrom T f rest = Lib.quoteFrom T s.size s) ∧ acc.length + 10 * rest.size ≤ 10 * s.size)
    (fun _ vs _ _ _ => match vs with | .string r => r.size | _ => 0)
  case atStart => exact ⟨s, [], s.size, rfl, Nat.le_refl _, by simpa [Hid, Lib.intCells] using Hb0.out, rfl, by simp⟩
  case round =>
    obtain ⟨rest, acc, f, rfl, hf, hbr, hq, hl⟩ := hrel
    have hBel : Below K.W0.heap.size K.W0 wr := hbr.out.below
    by_cases h0 : 0 < rest.size
    · have h0' : (0 : Int) < (rest.size : Int) := by omega
      obtain ⟨R, hR⟩ : ∃ R, R = (Utf8.decode rest 0).1 := ⟨_, rfl⟩
      obtain ⟨D, hD⟩ : ∃ D, D = (Utf8.decode rest 0).2 := ⟨_, rfl⟩
      have hD1 : 1 ≤ D := by rw [hD]; exact Lib.width_pos _ _
      have hD2 : D ≤ rest.size := by rw [hD]; exact Lib.width_le _ h0
      have hRv : Lib.validRune (R : Int) = true := by rw [hR]; exact Lib.rune_valid _
      have cD : Calls Tryz.prog 260 #[.string rest] wr fun e w' => e = .returned (.tuple #[.int .i32 R, .int .i64 D]) ∧ Below wr.heap.size wr w' := by
        have e : Lib.decodeGo rest = (R, D) := by
          have hne : ¬ rest.size = 0 := by omega
          rw [hR, hD]; simp [Lib.decodeGo, hne]
        have := Any.utf8_DecodeRuneInString { Tryz.laysQuote with } rest wr (Utf8Tabs_below HU.out hBel)
        rwa [e] at this
      have HR : Hid (R = (Utf8.decode rest 0).1) := hR
      have HD : Hid (D = (Utf8.decode rest 0).2) := hD
      clear hR hD hBel
      go_big_wp2_with fail
      refine cD.mono ?_
      rintro e w1 ⟨rfl, hbl⟩
      have hb1 := hbr.out.later hbl
      have hT1 : Lib.PrintTabsAt 8 9 10 11 T w1 := printTabs_below HT.out hb1.below
      have hlenA : 1 + acc.length + 10 ≤ 140737488355328 := by omega
      have hsz : (rest.extract D rest.size).size = rest.size - D := Lib.size_rest rest D
      by_cases hbad : D = 1 ∧ R = 65533
      · obtain ⟨rfl, rfl⟩ := hbad
        have hx255 := UInt8.toNat_lt (rest[0]'h0)
        have hx16 : 0 ≤ (((rest[0]'h0).toNat : Nat) : Int) / 16 ∧ (((rest[0]'h0).toNat : Nat) : Int) / 16 < 16 := by omega
        have hst := Lib.quoteStep_bad T rest h0 HD.out HR.out
        go_big_wp2_with (at_builtin; first
      | (refine wpList_append_byteU rfl _ _ 62 rfl K 5 i0 Tryz.underlying62 hi hz0 hz1 hz2 _ _ _ rfl _ _ (by assumption) rfl (by first | omega | (simp only [Lib.size_two]; omega)) ?_; intro _ _ hb)
      | (refine wpList_append_textU rfl _ _ 62 9 rfl K 5 i0 Tryz.underlying62 Tryz.underlying9 hi hz0 hz1 hz2 _ _ _ rfl (by assumption) _ rfl (by first | omega | (simp only [Lib.size_two]; omega)) ?_; intro _ _ hb))
        go_roundw
        case rel =>
          refine ⟨_, acc ++ Lib.quoteStep T rest, f - 1, rfl, by omega, ?_, ?_, ?_⟩
          · rw [hst]
            simpa [Hid, Lib.intCells, Lib.strCells, Lib.size_two, Lib.lowerhex_at, List.append_assoc, Nat.add_assoc] using hb
          · show acc ++ Lib.quoteStep T rest ++ Lib.quoteFrom T (f - 1) (rest.extract 1 rest.size) = _
            rw [← hq.out, Lib.quoteFrom_step T f rest h0 hf, ← HD.out, List.append_assoc]
          · have := Lib.quoteStep_length_le T rest
            simp only [List.length_append]; omega
        case measure => simp only []; omega
      · have hst : Lib.quoteStep T rest = Lib.escRune T (R : Int) := by
          rw [HR.out]; exact Lib.quoteStep_good T rest (by rw [← HD.out, ← HR.out]; exact hbad)
        have cE : Calls Tryz.prog 261 #[_, .int .i32 R, .int .u8 34, .bool false, .bool false] w1 fun e w' => ∃ v', e = .returned v' ∧ UBuf K 5 v' (1 + acc.length + (Lib.escRune T R).length) ([.int .u8 34] ++ Lib.intCells acc ++ Lib.intCells (Lib.escRune T R)) w' :=
          esc_calls T K _ _ _ R w1 hb1 hlenA hT1 hRv
        clear hT1 hRv
        by_cases hD1e : D = 1
        · subst hD1e
          have hR' : ¬ (R : Int) = 65533 := by omega
          go_big_wp2_with (go_at_call 261; refine cE.mono ?_; rintro e w2 ⟨v2, rfl, hb2⟩)
          all_goals (
            go_roundw
            case rel =>
              refine ⟨_, acc ++ Lib.quoteStep T rest, f - 1, rfl, by omega, ?_, ?_, ?_⟩
              · rw [hst]
                simpa [Hid, Lib.intCells, List.append_assoc, Nat.add_assoc] using hb2
              · show acc ++ Lib.quoteStep T rest ++ Lib.quoteFrom T (f - 1) (rest.extract 1 rest.size) = _
                rw [← hq.out, Lib.quoteFrom_step T f rest h0 hf, ← HD.out, List.append_assoc]
              · have := Lib.quoteStep_length_le T rest
                simp only [List.length_append]; omega
            case measure => simp only []; omega)
        · have hD2' : (D : Int) ≤ (rest.size : Int) := by omega
          have hD1' : ¬ (D : Int) = 1 := by omega
          go_big_wp2_with (go_at_call 261; refine cE.mono ?_; rintro e w2 ⟨v2, rfl, hb2⟩)
          all_goals (
            go_roundw
            case rel =>
              refine ⟨_, acc ++ Lib.quoteStep T rest, f - 1, rfl, by omega, ?_, ?_, ?_⟩
              · rw [hst]
                simpa [Hid, Lib.intCells, List.append_assoc, Nat.add_assoc] using hb2
              · show acc ++ Lib.quoteStep T rest ++ Lib.quoteFrom T (f - 1) (rest.extract D rest.size) = _
                rw [← hq.out, Lib.quoteFrom_step T f rest h0 hf, ← HD.out, List.append_assoc]
              · have := Lib.quoteStep_length_le T rest
                simp only [List.length_append]; omega
            case measure => simp only []; omega)
    · have h0' : ¬ (0 : Int) < (rest.size : Int) := by omega
      have hbx := hbr.out
      have hlenA : 1 + acc.length + 10 ≤ 140737488355328 := by omega
      go_big_wp2_with (at_builtin; first
      | (refine wpList_append_byteU rfl _ _ 62 rfl K 5 i0 Tryz.underlying62 hi hz0 hz1 hz2 _ _ _ rfl _ _ (by assumption) rfl (by first | omega | (simp only [Lib.size_two]; omega)) ?_; intro _ _ hb)
      | (refine wpList_append_textU rfl _ _ 62 9 rfl K 5 i0 Tryz.underlying62 Tryz.underlying9 hi hz0 hz1 hz2 _ _ _ rfl (by assumption) _ rfl (by first | omega | (simp only [Lib.size_two]; omega)) ?_; intro _ _ hb))
      go_ret
      have hqe : Lib.quoteFrom T s.size s = acc := by rw [← hq.out, Lib.quoteFrom_end T f rest h0]; simp
      have hlenq : (Lib.quoteZ T s).length = 1 + acc.length + 1 := by simp [Lib.quoteZ, hqe]; omega
      have hcells : Lib.intCells (Lib.quoteZ T s) = [.int .u8 34] ++ Lib.intCells acc ++ [.int .u8 34] := by simp [Lib.quoteZ, hqe, Lib.intCells]
      exact ⟨_, rfl, ⟨K, HK.out.1, HK.out.2.1, HK.out.2.2, by rw [hlenq, hcells]; exact hb⟩⟩

end Go.Proofs.YtobbfenkdnaanaaGreatDoor
