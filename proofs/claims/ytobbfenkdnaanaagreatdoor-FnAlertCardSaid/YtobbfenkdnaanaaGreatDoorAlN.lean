/- The law FnAlert: the whole. -/
import Derived.Test.YtobbfenkdnaanaaGreatDoorAlM
set_option linter.unusedVariables false
set_option linter.unusedSimpArgs false
namespace Go.Proofs.YtobbfenkdnaanaaGreatDoor
open Go.RowKit Go.Maps Go.WideMaps Go.Sort

theorem alertLaw (a a' : Option Addr) (cap cap' : Nat) (la lb : LL) (s e t : Int) (w : World) (hla : Labs w a la) (hlb : Labs w a' lb) (hma : la.length ≤ 9223372036854775807) (hmb : lb.length ≤ 9223372036854775807) (hg : GlobT w) :
    Calls Tryz.prog 4 #[.agg #[.slice a la.length cap, .slice a' lb.length cap', .int .i64 s, .int .i64 e], .int .i64 t] w fun r w' => r = .returned (.bool true) ∧ Below w.heap.size w w' := by
  cases hfit : (fitsB la && fitsB lb) with
  | false => exact al_fit a a' cap cap' la lb s e t w hla hlb hma hmb hg hfit
  | true =>
    have h1 : fitsB la = true := by cases h : fitsB la <;> simp [h] at hfit ⊢
    have h2 : fitsB lb = true := by cases h : fitsB lb <;> simp [h] at hfit ⊢
    have h3 := fits_len2 h1
    have h4 := fits_len2 h2
    cases hoa : ordB la with
    | false => exact al_orda a a' cap cap' la lb s e t w hla hlb hma hmb hg hfit h3 h4 hoa
    | true =>
    cases hob : ordB lb with
    | false => exact al_ordb a a' cap cap' la lb s e t w hla hlb hma hmb hg hfit h3 h4 hoa hob
    | true =>
    cases d0 : decide (s < 0) with
    | true => exact al_num0 a a' cap cap' la lb s e t w hla hlb hma hmb hg hfit h3 h4 hoa hob d0
    | false =>
    cases d1 : decide (8589934592 < s) with
    | true => exact al_num1 a a' cap cap' la lb s e t w hla hlb hma hmb hg hfit h3 h4 hoa hob d0 d1
    | false =>
    cases d2 : decide (e < 0) with
    | true => exact al_num2 a a' cap cap' la lb s e t w hla hlb hma hmb hg hfit h3 h4 hoa hob d0 d1 d2
    | false =>
    cases d3 : decide (8589934592 < e) with
    | true => exact al_num3 a a' cap cap' la lb s e t w hla hlb hma hmb hg hfit h3 h4 hoa hob d0 d1 d2 d3
    | false =>
    cases d4 : decide (t < 1) with
    | true => exact al_num4 a a' cap cap' la lb s e t w hla hlb hma hmb hg hfit h3 h4 hoa hob d0 d1 d2 d3 d4
    | false =>
    cases d5 : decide (8589934592 < t) with
    | true => exact al_num5 a a' cap cap' la lb s e t w hla hlb hma hmb hg hfit h3 h4 hoa hob d0 d1 d2 d3 d4 d5
    | false => exact al_main a a' cap cap' la lb s e t w hla hlb hma hmb hg hfit h3 h4 hoa hob d0 d1 d2 d3 d4 d5
end Go.Proofs.YtobbfenkdnaanaaGreatDoor
