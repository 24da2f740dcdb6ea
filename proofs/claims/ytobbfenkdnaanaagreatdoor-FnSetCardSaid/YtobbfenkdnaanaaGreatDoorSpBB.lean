/- The reference's Before, by contract: no labels; sets of different sizes; all. -/
import Derived.Test.YtobbfenkdnaanaaGreatDoorSpBA
import Derived.Test.YtobbfenkdnaanaaGreatDoorSrn
set_option linter.unusedVariables false
set_option linter.unusedSimpArgs false
namespace Go.Proofs.YtobbfenkdnaanaaGreatDoor
open Go.RowKit Go.Maps Go.WideMaps Go.Sort

set_option maxRecDepth 100000 in
theorem sortNil_calls (w : World) : Calls Tryz.prog 56 #[.slice none 0 0] w fun e w' => e = .returned (.tuple #[]) ∧ w' = w := by
  go_enter Tryz.func56, Tryz.ntmps56
  go_wp2_with (go_at_call 115; refine (Tryz.sort_strs_none none 0 _).mono ?_; rintro e w1 ⟨rfl, rfl⟩)
  go_end0
  exact ⟨rfl, rfl⟩

theorem row0_form {w : World} {base : Nat} {v : Value} (h : w.ownsRow base 70 2 v (0 + 0) ([] ++ [])) (hv : v ≠ .slice none 0 0) : ∃ g cap, v = .slice (some ⟨g, 0, none⟩) 0 cap ∧ RowLb w base v [] := by
  have h' : RowLb w base v [] := h
  obtain ⟨g, cap, hv', _, _⟩ := h'.form hv
  exact ⟨g, cap, hv', h'⟩

set_option maxHeartbeats 1000000 in
set_option maxRecDepth 100000 in
theorem specBefore0_calls (a a' : Option Addr) (cap cap' : Nat) (w : World) (ha : a = none → cap = 0) (ha' : a' = none → cap' = 0) :
    Calls Tryz.prog 15 #[.slice a 0 cap, .slice a' 0 cap'] w fun e w' => e = .returned (.bool false) ∧ Below w.heap.size w w' := by
  obtain ⟨i0, hi, hz0, hz1, hz2⟩ := info_parts infoL
  have HI := Aside0.mk (And.intro hi (And.intro hz0 (And.intro hz1 hz2)))
  have HR0 := Aside0.mk (rowLb_empty w)
  have HB0 := Aside0.mk (below_alloc (Below.refl w.heap.size w) (.cells #[] 70))
  clear hi hz0 hz1 hz2
  cases a with
  | none =>
    obtain rfl := ha rfl
    cases a' with
    | none =>
      obtain rfl := ha' rfl
      clear ha ha'
      go_enter Tryz.func15, Tryz.ntmps15
      go_wp2_with (at_builtin; refine wpList_append_own_none rfl _ _ 22 rfl w.heap.size 70 i0 2 Tryz.underlying22 HI.out.1 _ _ _ rfl HR0.out rfl ?_)
      go_loopg [5, 29] 1 (fun g v5 v29 w' => v29 = .int .i64 0 ∧ v5 = .slice none 0 0 ∧ Aside0 (Below w.heap.size w w'))
      case atStart => exact ⟨rfl, rfl, HB0⟩
      case round =>
        obtain ⟨rfl, rfl, HBW⟩ := hrel
        go_wp2_with (go_at_call 56; refine (sortNil_calls _).mono ?_; rintro e w9 ⟨rfl, rfl⟩)
        go_loopg [8] 1 (fun g v8 w' => v8 = .int .i64 0 ∧ Aside0 (Below w.heap.size w w'))
        case atStart => exact ⟨rfl, HBW⟩
        case round =>
          obtain ⟨rfl, HBW2⟩ := hrel
          go_wp2_with fail
          go_ret
          exact ⟨rfl, HBW2.out⟩
    | some p =>
      clear ha ha'
      go_enter Tryz.func15, Tryz.ntmps15
      go_wp2_with (first
        | (at_builtin; refine wpList_append_own_none rfl _ _ 22 rfl w.heap.size 70 i0 2 Tryz.underlying22 HI.out.1 _ _ _ rfl HR0.out rfl ?_)
        | (at_builtin; refine wpList_append_own _ rfl _ _ 22 rfl w.heap.size 70 i0 (.agg #[.string ⟨#[]⟩, .string ⟨#[]⟩]) 2 32 Tryz.underlying22 HI.out.1 HI.out.2.1 HI.out.2.2.1 HI.out.2.2.2 rfl (by decide) (.slice (some ⟨w.heap.size, 0, none⟩) 0 0) _ _ rfl HR0.out p 0 cap' [] rfl rfl ?q0 ?q4 ?q1 ?q2 ?q3 ?_; (case q0 => (intro j u hu; cases hu)); (case q4 => (intro u hu; cases hu)); (case q1 => decide); (case q2 => decide); (case q3 => exact HB0.out.size); intro v1 w1 ho hg hn; obtain ⟨g1, cap1, rfl, hr1⟩ := row0_form ho (fun e => absurd (hn.1 e).1 (by simp)); have HR1 := Aside0.mk hr1; have HB1 := Aside0.mk (HB0.out.grown hg HB0.out.size (fun k hk => (World.ownsRow.lt HR0.out k hk).1)); clear ho hg hn hr1))
      go_loopg [5, 29] 1 (fun g v5 v29 w' => v29 = .int .i64 0 ∧ v5 = .slice none 0 0 ∧ Aside0 (Below w.heap.size w w'))
      case atStart => exact ⟨rfl, rfl, HB1⟩
      case round =>
        obtain ⟨rfl, rfl, HBW⟩ := hrel
        go_wp2_with (go_at_call 56; refine (sortNil_calls _).mono ?_; rintro e w9 ⟨rfl, rfl⟩)
        go_loopg [8] 1 (fun g v8 w' => v8 = .int .i64 0 ∧ Aside0 (Below w.heap.size w w'))
        case atStart => exact ⟨rfl, HBW⟩
        case round =>
          obtain ⟨rfl, HBW2⟩ := hrel
          go_wp2_with fail
          go_ret
          exact ⟨rfl, HBW2.out⟩
  | some p =>
    cases a' with
    | none =>
      obtain rfl := ha' rfl
      clear ha ha'
      go_enter Tryz.func15, Tryz.ntmps15
      go_wp2_with (first
        | (at_builtin; refine wpList_append_own _ rfl _ _ 22 rfl w.heap.size 70 i0 (.agg #[.string ⟨#[]⟩, .string ⟨#[]⟩]) 2 32 Tryz.underlying22 HI.out.1 HI.out.2.1 HI.out.2.2.1 HI.out.2.2.2 rfl (by decide) (.slice (some ⟨w.heap.size, 0, none⟩) 0 0) _ _ rfl HR0.out p 0 cap [] rfl rfl ?q0 ?q4 ?q1 ?q2 ?q3 ?_; (case q0 => (intro j u hu; cases hu)); (case q4 => (intro u hu; cases hu)); (case q1 => decide); (case q2 => decide); (case q3 => exact HB0.out.size); intro v1 w1 ho hg hn; obtain ⟨g1, cap1, rfl, hr1⟩ := row0_form ho (fun e => absurd (hn.1 e).1 (by simp)); have HR1 := Aside0.mk hr1; have HB1 := Aside0.mk (HB0.out.grown hg HB0.out.size (fun k hk => (World.ownsRow.lt HR0.out k hk).1)); clear ho hg hn hr1)
        | (at_builtin; refine wpList_append_own_none rfl _ _ 22 rfl w.heap.size 70 i0 2 Tryz.underlying22 HI.out.1 _ _ _ rfl HR1.out rfl ?_))
      go_loopg [5, 29] 1 (fun g v5 v29 w' => v29 = .int .i64 0 ∧ v5 = .slice none 0 0 ∧ Aside0 (Below w.heap.size w w'))
      case atStart => exact ⟨rfl, rfl, HB1⟩
      case round =>
        obtain ⟨rfl, rfl, HBW⟩ := hrel
        go_wp2_with (go_at_call 56; refine (sortNil_calls _).mono ?_; rintro e w9 ⟨rfl, rfl⟩)
        go_loopg [8] 1 (fun g v8 w' => v8 = .int .i64 0 ∧ Aside0 (Below w.heap.size w w'))
        case atStart => exact ⟨rfl, HBW⟩
        case round =>
          obtain ⟨rfl, HBW2⟩ := hrel
          go_wp2_with fail
          go_ret
          exact ⟨rfl, HBW2.out⟩
    | some q =>
      clear ha ha'
      go_enter Tryz.func15, Tryz.ntmps15
      go_wp2_with (first
        | (at_builtin; refine wpList_append_own _ rfl _ _ 22 rfl w.heap.size 70 i0 (.agg #[.string ⟨#[]⟩, .string ⟨#[]⟩]) 2 32 Tryz.underlying22 HI.out.1 HI.out.2.1 HI.out.2.2.1 HI.out.2.2.2 rfl (by decide) (.slice (some ⟨w.heap.size, 0, none⟩) 0 0) _ _ rfl HR0.out p 0 cap [] rfl rfl ?q0 ?q4 ?q1 ?q2 ?q3 ?_; (case q0 => (intro j u hu; cases hu)); (case q4 => (intro u hu; cases hu)); (case q1 => decide); (case q2 => decide); (case q3 => exact HB0.out.size); intro v1 w1 ho hg hn; obtain ⟨g1, cap1, rfl, hr1⟩ := row0_form ho (fun e => absurd (hn.1 e).1 (by simp)); have HR1 := Aside0.mk hr1; have HB1 := Aside0.mk (HB0.out.grown hg HB0.out.size (fun k hk => (World.ownsRow.lt HR0.out k hk).1)); clear ho hg hn hr1)
        | (at_builtin; refine wpList_append_own _ rfl _ _ 22 rfl w.heap.size 70 i0 (.agg #[.string ⟨#[]⟩, .string ⟨#[]⟩]) 2 32 Tryz.underlying22 HI.out.1 HI.out.2.1 HI.out.2.2.1 HI.out.2.2.2 rfl (by decide) (.slice (some ⟨g1, 0, none⟩) 0 cap1) _ _ rfl HR1.out q 0 cap' [] rfl rfl ?q0 ?q4 ?q1 ?q2 ?q3 ?_; (case q0 => (intro j u hu; cases hu)); (case q4 => (intro u hu; cases hu)); (case q1 => decide); (case q2 => decide); (case q3 => exact HB1.out.size); intro v2 w2 ho hg hn; obtain ⟨g2, cap2, rfl, hr2⟩ := row0_form ho (fun e => absurd (hn.1 e).1 (by simp)); have HR2 := Aside0.mk hr2; have HB2 := Aside0.mk (HB1.out.grown hg HB1.out.size (fun k hk => (World.ownsRow.lt HR1.out k hk).1)); clear ho hg hn hr2))
      go_loopg [5, 29] 1 (fun g v5 v29 w' => v29 = .int .i64 0 ∧ v5 = .slice none 0 0 ∧ Aside0 (Below w.heap.size w w'))
      case atStart => exact ⟨rfl, rfl, HB2⟩
      case round =>
        obtain ⟨rfl, rfl, HBW⟩ := hrel
        go_wp2_with (go_at_call 56; refine (sortNil_calls _).mono ?_; rintro e w9 ⟨rfl, rfl⟩)
        go_loopg [8] 1 (fun g v8 w' => v8 = .int .i64 0 ∧ Aside0 (Below w.heap.size w w'))
        case atStart => exact ⟨rfl, HBW⟩
        case round =>
          obtain ⟨rfl, HBW2⟩ := hrel
          go_wp2_with fail
          go_ret
          exact ⟨rfl, HBW2.out⟩

set_option maxRecDepth 100000 in
theorem specBefore_calls (a a' : Option Addr) (cap cap' : Nat) (la lb : LL) (w : World) (hla : Labs w a la) (hlb : Labs w a' lb) (hsa : Sized la) (hsb : Sized lb) (ha : a = none → cap = 0) (ha' : a' = none → cap' = 0) :
    Calls Tryz.prog 15 #[.slice a la.length cap, .slice a' lb.length cap'] w fun e w' => e = .returned (.bool (befB la lb)) ∧ Below w.heap.size w w' := by
  by_cases heq : lb.length = la.length
  · by_cases h0 : la.length = 0
    · have hla0 : la = [] := List.eq_nil_of_length_eq_zero h0
      have hlb0 : lb = [] := List.eq_nil_of_length_eq_zero (by omega)
      subst hla0
      subst hlb0
      exact (specBefore0_calls a a' cap cap' w ha ha').mono fun e w' h => ⟨by rw [h.1]; simp [befB, sortN, bef], h.2⟩
    · exact specBefore2_calls a a' cap cap' la lb w hla hlb hsa hsb heq h0
  · clear hla hlb hsa hsb ha ha'
    by_cases hlt : la.length < lb.length
    · have HF := Aside0.mk (show befB la lb = true by unfold befB; rw [if_pos hlt])
      have c1 : ((la.length : Int) != (lb.length : Int)) = true := by simp; omega
      clear heq
      go_enter Tryz.func15, Tryz.ntmps15
      go_wp2_with fail
      go_ret
      exact ⟨by rw [HF.out]; rfl, Below.refl _ _⟩
    · have HF := Aside0.mk (show befB la lb = false by unfold befB; rw [if_neg hlt, if_pos (by omega)])
      have c1 : ((la.length : Int) != (lb.length : Int)) = true := by simp; omega
      clear heq
      go_enter Tryz.func15, Tryz.ntmps15
      go_wp2_with fail
      go_ret
      exact ⟨by rw [HF.out]; rfl, Below.refl _ _⟩
end Go.Proofs.YtobbfenkdnaanaaGreatDoor
