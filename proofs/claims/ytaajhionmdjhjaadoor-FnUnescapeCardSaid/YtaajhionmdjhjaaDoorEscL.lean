/- The law FnEscape, walked: whatever the text and the scheme, it answers true. -/
import Derived.Test.YtaajhionmdjhjaaDoorEscE
set_option linter.unusedVariables false
set_option linter.unusedSimpArgs false
namespace Go.Proofs.YtaajhionmdjhjaaDoor
open Go.RowKit

/-- What the law on escaping asks of a world. -/
structure GlobE (w : World) : Prop where
  glob : GlobT w
  ctz : Ctz w
theorem GlobE.next {w w' : World} (h : GlobE w) (hb : Below w.heap.size w w') : GlobE w' := ⟨h.glob.next hb, ctz_next h.ctz hb⟩

theorem esc_len (k : Nat) (s : ByteArray) : ∀ (f pos : Nat) (acc : List UInt8), (esc k s f pos acc).length ≤ acc.length + 11 * f
  | 0, pos, acc => by simp [esc]
  | f + 1, pos, acc => by
    unfold esc
    split
    · have h1 := esc_len k s f (pos + (Utf8.decode s pos).2) (acc ++ piece k ((Utf8.decode s pos).1 : Int) pos)
      have h2 := piece_len k ((Utf8.decode s pos).1 : Int) pos
      rw [List.length_append] at h1
      omega
    · omega
theorem escOut_size (k : Nat) (s : ByteArray) (hs : s.size ≤ 200) : (escOut k s).size ≤ 10000 := by
  unfold escOut
  split
  · omega
  · have h := esc_len k s (s.size + 1) 0 (escHead k)
    have h2 : (escHead k).length ≤ 3 := by unfold escHead; split <;> simp
    show (escT k s).toArray.size ≤ _
    rw [List.size_toArray]
    unfold escT
    omega
theorem escOut_legal (k : Nat) (hk : k ≤ 3) (s : ByteArray) (h0 : s.size ≠ 0) (hk0 : k ≠ 0) : legB (escOut k s) true = true := by
  unfold escOut
  split
  · rename_i h
    rcases h with h | h | h
    · exact absurd h hk0
    · exact absurd h h0
    · exact h.2
  · exact legB_true (escT_legal k (by omega) s h0)

set_option maxHeartbeats 2000000 in
set_option maxRecDepth 100000 in
theorem escLaw_calls (s : ByteArray) (hm : s.size ≤ maxLen) (x : Int) (hx0 : 0 ≤ x) (hx1 : x ≤ 255) (w : World) (hg : GlobE w) :
    Calls Tryd.prog 10 #[.string s, .int .u8 x] w fun e w' => e = .returned (.bool true) ∧ Below w.heap.size w w' := by
  have HG := Aside0.mk hg; clear hg
  unfold maxLen at hm
  by_cases hm2 : 2147483647 < s.size
  · go_enter Tryd.func10, Tryd.ntmps10
    go_wp2
    go_ret
    exact ⟨rfl, Below.refl _ _⟩
  · by_cases hbig : s.size ≤ 200
    · have hs : s.size ≤ 2147483647 := by omega
      cases hv : Lib.validD s.data.toList with
      | false =>
        have HV := Aside0.mk hv
        clear hv
        go_enter Tryd.func10, Tryd.ntmps10
        go_wp2_with fail
        refine (valid_calls s hs _ HG.out.glob.tabs).mono ?_
        rintro e w0 ⟨rfl, hb0⟩
        rw [HV.out]
        have HB0 := Aside0.mk hb0; clear hb0
        go_wp2_with fail
        refine (awake_calls _ (HG.out.next HB0.out).glob.glob).mono ?_
        rintro e w1 ⟨rfl, hb1⟩
        have HB1 := Aside0.mk (below_step HB0.out hb1); clear hb1
        go_wp2
        go_ret
        exact ⟨rfl, HB1.out⟩
      | true =>
        have HV := Aside0.mk hv
        clear hv
        go_enter Tryd.func10, Tryd.ntmps10
        go_wp2_with fail
        refine (valid_calls s hs _ HG.out.glob.tabs).mono ?_
        rintro e w0 ⟨rfl, hb0⟩
        rw [HV.out]
        have HB0 := Aside0.mk hb0; clear hb0
        go_wp2_with fail
        obtain ⟨k, hk⟩ : ∃ k : Nat, x % 4 = (k : Int) := ⟨(x % 4).toNat, by omega⟩
        have hk3 : k ≤ 3 := by omega
        rw [hk]
        clear hk
        by_cases he : s.size = 0
        · have hz : s.toList.isEmpty = true := by rw [empty_of s]; exact decide_eq_true he
          clear he
          refine (implEscape_calls k hk3 s (by omega) _ (HG.out.next HB0.out).ctz (HG.out.next HB0.out).glob.glob.size).mono ?_
          rintro e w1 ⟨rfl, hb1⟩
          have HB1 := Aside0.mk (below_step HB0.out hb1); clear hb1
          go_wp2_with fail
          refine (awake_calls _ (HG.out.next HB1.out).glob.glob).mono ?_
          rintro e w2 ⟨rfl, hb2⟩
          have HB2 := Aside0.mk (below_step HB1.out hb2); clear hb2
          go_wp2_with fail
          refine (specEscape_calls k hk3 s (by omega) _ (HG.out.next HB2.out).ctz (HG.out.next HB2.out).glob.glob.size).mono ?_
          rintro e w3 ⟨rfl, hb3⟩
          have HB3 := Aside0.mk (below_step HB2.out hb3); clear hb3
          go_wp2
          go_ret
          exact ⟨rfl, HB3.out⟩
        · have hz : s.toList.isEmpty = false := by rw [empty_of s]; exact decide_eq_false he
          have HN := Aside0.mk he
          clear he
          by_cases hk0 : k = 0
          · have hkz : ((k : Int) == 0) = true := by simp [hk0]
            clear hk0
            refine (implEscape_calls k hk3 s (by omega) _ (HG.out.next HB0.out).ctz (HG.out.next HB0.out).glob.glob.size).mono ?_
            rintro e w1 ⟨rfl, hb1⟩
            have HB1 := Aside0.mk (below_step HB0.out hb1); clear hb1
            go_wp2_with fail
            refine (awake_calls _ (HG.out.next HB1.out).glob.glob).mono ?_
            rintro e w2 ⟨rfl, hb2⟩
            have HB2 := Aside0.mk (below_step HB1.out hb2); clear hb2
            go_wp2_with fail
            refine (specEscape_calls k hk3 s (by omega) _ (HG.out.next HB2.out).ctz (HG.out.next HB2.out).glob.glob.size).mono ?_
            rintro e w3 ⟨rfl, hb3⟩
            have HB3 := Aside0.mk (below_step HB2.out hb3); clear hb3
            go_wp2
            go_ret
            exact ⟨rfl, HB3.out⟩
          · have hkz : ((k : Int) == 0) = false := beq_eq_false_iff_ne.2 (by omega)
            have HE := Aside0.mk (escOut_legal k hk3 s HN.out hk0)
            clear hk0
            refine (implEscape_calls k hk3 s (by omega) _ (HG.out.next HB0.out).ctz (HG.out.next HB0.out).glob.glob.size).mono ?_
            rintro e w1 ⟨rfl, hb1⟩
            have HB1 := Aside0.mk (below_step HB0.out hb1); clear hb1
            go_wp2_with fail
            refine (awake_calls _ (HG.out.next HB1.out).glob.glob).mono ?_
            rintro e w2 ⟨rfl, hb2⟩
            have HB2 := Aside0.mk (below_step HB1.out hb2); clear hb2
            go_wp2_with fail
            refine (specEscape_calls k hk3 s (by omega) _ (HG.out.next HB2.out).ctz (HG.out.next HB2.out).glob.glob.size).mono ?_
            rintro e w3 ⟨rfl, hb3⟩
            have HB3 := Aside0.mk (below_step HB2.out hb3); clear hb3
            go_wp2_with fail
            refine (legacy_true (escOut k s) (by have := escOut_size k s (by omega); omega) _).mono ?_
            rintro e w4 ⟨rfl, hb4⟩
            rw [HE.out]
            have HB4 := Aside0.mk (below_step HB3.out hb4); clear hb4
            go_wp2
            go_ret
            exact ⟨rfl, HB4.out⟩
    · go_enter Tryd.func10, Tryd.ntmps10
      go_wp2_with (go_at_call 12; refine (awake_calls _ HG.out.glob.glob).mono ?_; rintro e w1 ⟨rfl, hb⟩)
      go_ret
      exact ⟨rfl, hb⟩
end Go.Proofs.YtaajhionmdjhjaaDoor
