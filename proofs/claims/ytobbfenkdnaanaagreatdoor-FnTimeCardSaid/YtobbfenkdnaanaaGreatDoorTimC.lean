/- The text of decimals: fmtEFG at 'f', walked. (Printed by wip/tools/timC.py.) -/
import Derived.Test.YtobbfenkdnaanaaGreatDoorTimB
import Derived.Deep.AppendLies
import Derived.Maps.AppendAt
set_option linter.unusedVariables false
set_option linter.unusedSimpArgs false
namespace Go.Proofs.YtobbfenkdnaanaaGreatDoor
open Go.RowKit Go.Sort

def bv (l : List UInt8) : List Value := l.map fun x => Value.int .u8 (x.toNat : Int)

/-- A slice of bytes of one's own holds the text. -/
def Txt (w : World) (base : Nat) (v : Value) (t : List UInt8) : Prop := w.ownsRow base 5 1 v t.length (bv t)

def zeros (n : Nat) : List UInt8 := List.replicate n 48

/-- The whole part; the whole text. -/
def wholeT (l : List UInt8) (dp : Int) : List UInt8 := if 0 < dp then l.take dp.toNat ++ zeros (dp.toNat - l.length) else [48]
def fracT (l : List UInt8) (dp : Int) : List UInt8 := if dp < l.length then 46 :: (zeros (-dp).toNat ++ l.drop dp.toNat) else []
def decT (neg : Bool) (l : List UInt8) (dp : Int) : List UInt8 := cond neg [45] [] ++ wholeT l dp ++ fracT l dp

theorem infoB : (Tryz.prog.info? 5).map (fun i => (i.zero, i.size, i.bytes)) = some (some (.int .u8 0), 1, 1) := by kernel_rfl

/-- Under way: the text so far, the digits beside it. -/
structure St (w0 : World) (base b : Nat) (l : List UInt8) (v : Value) (t : List UInt8) (w : World) : Prop where
  txt : Txt w base v t
  bys : BytesAt w b l
  ne : some b ≠ v.ownBlock
  lt : b < w.heap.size
  bel : Below base w0 w
  bs : base ≤ w.heap.size

theorem St.alloc {w0 w : World} {base b : Nat} {l t : List UInt8} {v : Value} (h : St w0 base b l v t w) (o : Obj) : St w0 base b l v t (w.alloc o) :=
  ⟨World.ownsRow.alloc h.txt o, h.bys.below ((Below.refl w.heap.size w).alloc (Nat.le_refl _) o) h.lt, h.ne, by have := h.lt; simp; omega, h.bel.alloc h.bs o, by have := h.bs; simp; omega⟩

theorem app1 {w0 W : World} {base b : Nat} {l t : List UInt8} {v : Value} {ops : Array Oper} {rest : List Oper} {o : Oper} {a : Act} {Q : Exit → Act → World → Prop} (c : UInt8)
    (hgd : o.guard = none) (s x : Operand) (ho : o.op = .call { callee := .builtin .append, args := #[s, x], argTypes := #[62, 62] })
    (hs : a.eval s = v) (hx : a.eval x = .slice (some ⟨W.heap.size, 0, none⟩) 1 1) (hst : St w0 base b l v t W) (ht : t.length ≤ 1000)
    (h : ∀ v' w', St w0 base b l v' (t ++ [c]) w' → wpList Tryz.prog ops Q rest (a.put o.dst v') w') :
    wpList Tryz.prog ops Q (o :: rest) a (W.alloc (.cells #[.int .u8 (c.toNat : Int)] 5)) := by
  obtain ⟨i0, hi, hz0, hz1, hz2⟩ := info_parts infoB
  have hA := hst.alloc (.cells #[.int .u8 (c.toNat : Int)] 5)
  refine wpList_append_lies _ hgd s x 62 ho base 5 i0 (.int .u8 0) 1 1 Tryz.underlying62 hi hz0 hz1 hz2 rfl (by decide) v t.length (bv t) hs hA.txt ⟨W.heap.size, 0, none⟩ 1 1 [.int .u8 (c.toNat : Int)] hx rfl (cell_one_new _ _ _) (by intro u hu; simp at hu; subst hu; rfl) (by decide) (by unfold maxLen; omega) (by omega) hA.bs _ rfl ?_
  intro g cap w' hown hgr hor hlt
  refine h _ _ ⟨?_, ?_, ?_, ?_, ?_, ?_⟩
  · unfold Txt bv
    rw [List.length_append, List.map_append]
    exact hown
  · intro j y hj
    rw [← hA.bys j y hj]
    exact World.cell?_of_block (hgr.block b hA.lt hst.ne)
  · intro e
    have e2 : b = g := by simpa [Value.ownBlock] using e
    rcases hor with h1 | h1
    · exact hst.ne (by rw [h1, e2])
    · have := hA.lt; omega
  · have := hgr.size; have := hA.lt; omega
  · exact hA.bel.grown hgr hA.bs (fun k hk => (World.ownsRow.lt hst.txt k hk).1)
  · have := hgr.size; have := hA.bs; omega

set_option maxHeartbeats 2000000 in
set_option maxRecDepth 100000 in
theorem fmtFNP (v0 : Value) (b C n pr : Nat) (l : List UInt8) (dp : Int) (base : Nat) (w : World) (hst : St w base b l v0 [] w)
    (hn : n = l.length) (hpr : (pr : Int) = max ((n : Int) - dp) 0) (h1 : 1 ≤ n) (hlC : n ≤ 20) (hC : 20 ≤ C) (hC2 : C ≤ 100) (hd0 : -3 ≤ dp) (hd1 : dp ≤ 20) (hpos : 0 < dp) :
    Calls Tryz.prog 303 #[v0, .bool true, .slice (some ⟨b, 0, none⟩) C C, .int .i64 dp, .int .i64 n, .int .i64 pr, .int .u8 102, .bool true] w
      fun e w' => ∃ v, e = .returned v ∧ St w base b l v (decT true l dp) w' := by
  have HST := Aside0.mk hst
  have HN := Aside0.mk hn
  have HPR := Aside0.mk hpr
  have HLEN := Aside0.mk (show n ≤ 20 ∧ dp ≤ 20 ∧ -3 ≤ dp from ⟨hlC, hd1, hd0⟩)
  clear hst hn
  obtain ⟨d, rfl⟩ : ∃ d : Nat, dp = (d : Int) := ⟨dp.toNat, by omega⟩
  have cp : decide ((d : Int) > 0) = true := decide_eq_true (by omega)
  have cp2 : decide (0 < d) = true := decide_eq_true (by omega)
  have hd1 : 1 ≤ d := by omega
  have hd2 : d ≤ 20 := by omega
  obtain ⟨m, hm⟩ : ∃ m : Nat, min (n : Int) (d : Int) = (m : Int) := ⟨min n d, by omega⟩
  have hmn : m ≤ n := by omega
  have hmd : m ≤ d := by omega
  obtain ⟨z, hz⟩ : ∃ z : Nat, (d : Int) - (m : Int) = (z : Int) := ⟨d - m, by omega⟩
  have hmc : m ≤ C := by omega
  clear hpr hpos
  go_enter Tryz.func303, Tryz.ntmps303
  obtain ⟨wo, hwo⟩ : ∃ wo : World, wo = w := ⟨_, rfl⟩
  rw [← hwo] at HST
  rw [← hwo]
  clear hwo
  go_wp2_with (at_builtin; refine app1 45 rfl _ _ rfl rfl rfl HST.out (by simp) ?_; intro v1 w1 hst1; have HST1 := Aside0.mk hst1; clear hst1)
  go_loopg [0, 191] (m + 1) (fun g va  vc w' => ∃ j : Nat, vc = .int .i64 (j : Int) ∧ j + g = m + 1 ∧ j ≤ m ∧ Aside0 (St wo base b l va ([45] ++ (l.drop 0).take j) w'))
  case atStart => exact ⟨0, rfl, by omega, by omega, ⟨by simpa [zeros] using HST1.out⟩⟩
  case round =>
    obtain ⟨j, rfl, hjg, hjm, HS⟩ := hrel
    by_cases hlt : j < m
    · obtain ⟨g1, rfl⟩ : ∃ m, gk = m + 1 := ⟨gk - 1, by omega⟩
      have clt : decide ((j : Int) < (m : Int)) = true := decide_eq_true (by omega)
      obtain ⟨x, hx⟩ : ∃ x, l[0 + j]? = some x := ⟨l[0 + j]'(by have := HN.out; omega), List.getElem?_eq_getElem _⟩
      have cx := HS.out.bys (0 + j) x hx
      have HX := Aside0.mk hx
      rw [Nat.zero_add] at cx
      clear hx
      go_wp2_with (at_builtin; refine app1 x rfl _ _ rfl rfl rfl HS.out (by have := HN.out; have := HLEN.out; simp [zeros]; omega) ?_; intro v2 w2 hst2; have HS2 := Aside0.mk hst2; clear hst2)
      go_roundg g1
      case measure => omega
      case rel =>
        refine ⟨j + 1, by go_num, by omega, by omega, ⟨?_⟩⟩
        have h2 := HS2.out
        rw [List.append_assoc] at h2
        rw [List.take_add_one, List.getElem?_drop, HX.out]
        exact h2
    · have hje : j = m := by omega
      have clt : decide ((j : Int) < (m : Int)) = false := decide_eq_false (by omega)
      have HJ := Aside0.mk (show St wo base b l u0 ([45] ++ (l.drop 0).take m) wr by rw [← hje]; exact HS.out)
      clear hje hjg HS
      have HST2 := HJ
      clear HJ
      go_wp2_with fail
      go_loopg [0, 203] (z + 1) (fun g va  vc w' => ∃ j : Nat, vc = .int .i64 (j : Int) ∧ j + g = z + 1 ∧ j ≤ z ∧ Aside0 (St wo base b l va ([45] ++ (l.drop 0).take m ++ zeros j) w'))
      case atStart => exact ⟨0, rfl, by omega, by omega, ⟨by simpa [zeros] using HST2.out⟩⟩
      case round =>
        obtain ⟨j, rfl, hjg, hjm, HS⟩ := hrel
        by_cases hlt : j < z
        · obtain ⟨g1, rfl⟩ : ∃ m, gk = m + 1 := ⟨gk - 1, by omega⟩
          have clt : decide ((j : Int) < (z : Int)) = true := decide_eq_true (by omega)
          go_wp2_with (at_builtin; refine app1 48 rfl _ _ rfl rfl rfl HS.out (by simp [zeros]; have := HLEN.out; omega) ?_; intro v2 w2 hst2; have HS2 := Aside0.mk hst2; clear hst2)
          go_roundg g1
          case measure => omega
          case rel =>
            refine ⟨j + 1, by go_num, by omega, by omega, ⟨?_⟩⟩
            have h2 := HS2.out
            rw [List.append_assoc] at h2
            rw [show zeros (j + 1) = zeros j ++ [48] from List.replicate_succ']
            exact h2
        · have hje : j = z := by omega
          have clt : decide ((j : Int) < (z : Int)) = false := decide_eq_false (by omega)
          have HJ := Aside0.mk (show St wo base b l u0 ([45] ++ (l.drop 0).take m ++ zeros z) wr by rw [← hje]; exact HS.out)
          clear hje hjg HS
          have HST3 := HJ
          clear HJ
          by_cases hp : d < n
          · have cq : decide ((pr : Int) > 0) = true := decide_eq_true (by have := HPR.out; omega)
            have cq2 : decide (0 < pr) = true := decide_eq_true (by have := HPR.out; omega)
            have k1 : max 0 (-(d : Int)) = 0 := by omega
            have k2 : min (pr : Int) 0 = 0 := by omega
            have k3 : max 0 ((n : Int) - (d : Int)) = (pr : Int) := by have := HPR.out; omega
            go_wp2_with (at_builtin; refine app1 46 rfl _ _ rfl rfl rfl HST3.out (by have := HN.out; have := HLEN.out; simp [zeros]; omega) ?_; intro v4 w4 hst4; have HST4 := Aside0.mk hst4; clear hst4)
            refine wp_loop_rounds 1 ?_
            rw [rounds_succ]
            go_wp2_with fail
            go_loopg [0, 247] (pr + 1) (fun g va  vc w' => ∃ j : Nat, vc = .int .i64 (j : Int) ∧ j + g = pr + 1 ∧ j ≤ pr ∧ Aside0 (St wo base b l va ([45] ++ (l.drop 0).take m ++ zeros z ++ [46] ++ (l.drop d).take j) w'))
            case atStart => exact ⟨0, rfl, by omega, by omega, ⟨by simpa [zeros] using HST4.out⟩⟩
            case round =>
              obtain ⟨j, rfl, hjg, hjm, HS⟩ := hrel
              by_cases hlt : j < pr
              · obtain ⟨g1, rfl⟩ : ∃ m, gk = m + 1 := ⟨gk - 1, by omega⟩
                have clt : decide ((j : Int) < (pr : Int)) = true := decide_eq_true (by omega)
                obtain ⟨x, hx⟩ : ∃ x, l[d + j]? = some x := ⟨l[d + j]'(by have := HN.out; omega), List.getElem?_eq_getElem _⟩
                have cx := HS.out.bys (d + j) x hx
                have HX := Aside0.mk hx
                clear hx
                go_wp2_with (at_builtin; refine app1 x rfl _ _ rfl rfl rfl HS.out (by have := HN.out; have := HLEN.out; simp [zeros]; omega) ?_; intro v2 w2 hst2; have HS2 := Aside0.mk hst2; clear hst2)
                go_roundg g1
                case measure => omega
                case rel =>
                  refine ⟨j + 1, by go_num, by omega, by omega, ⟨?_⟩⟩
                  have h2 := HS2.out
                  rw [List.append_assoc] at h2
                  rw [List.take_add_one, List.getElem?_drop, HX.out]
                  exact h2
              · have hje : j = pr := by omega
                have clt : decide ((j : Int) < (pr : Int)) = false := decide_eq_false (by omega)
                have HJ := Aside0.mk (show St wo base b l u0 ([45] ++ (l.drop 0).take m ++ zeros z ++ [46] ++ (l.drop d).take pr) wr by rw [← hje]; exact HS.out)
                clear hje hjg HS
                have HST5 := HJ
                clear HJ
                go_wp2_with fail
                refine wp_loop_rounds 1 ?_
                rw [rounds_succ]
                go_wp2_with fail
                refine bodyPost_ret (v := u0) (by simp [results, Tryz.results303, go_sem]) rfl ⟨u0, rfl, ?_⟩
                rw [show decT true l (d : Int) = [45] ++ (l.drop 0).take m ++ zeros z ++ [46] ++ (l.drop d).take pr by
                    have hnl := HN.out
                    have hq := HPR.out
                    have hmd2 : m = d := by omega
                    have hz0 : z = 0 := by omega
                    have hpr2 : pr = l.length - d := by omega
                    rw [hmd2, hz0, hpr2]
                    unfold decT wholeT fracT
                    rw [if_pos (by omega), if_pos (by omega), Int.toNat_natCast, show d - l.length = 0 by omega, show (-(d : Int)).toNat = 0 by omega]
                    rw [List.take_of_length_le (l := l.drop d) (by simp)]
                    simp [zeros]]
                exact HST5.out
          · have cq : decide ((pr : Int) > 0) = false := decide_eq_false (by have := HPR.out; omega)
            have cq2 : decide (0 < pr) = false := decide_eq_false (by have := HPR.out; omega)
            go_wp2_with fail
            refine bodyPost_ret (v := u0) (by simp [results, Tryz.results303, go_sem]) rfl ⟨u0, rfl, ?_⟩
            rw [show decT true l (d : Int) = [45] ++ (l.drop 0).take m ++ zeros z by
                have hnl := HN.out
                have hq := HPR.out
                have hmd2 : m = l.length := by omega
                have hz0 : z = d - l.length := by omega
                rw [hmd2, hz0]
                unfold decT wholeT fracT
                rw [if_pos (by omega), if_neg (by omega), Int.toNat_natCast, List.take_of_length_le (l := l) (show l.length ≤ d by omega)]
                simp [zeros]]
            exact HST3.out

set_option maxHeartbeats 2000000 in
set_option maxRecDepth 100000 in
theorem fmtFNZ (v0 : Value) (b C n pr : Nat) (l : List UInt8) (dp : Int) (base : Nat) (w : World) (hst : St w base b l v0 [] w)
    (hn : n = l.length) (hpr : (pr : Int) = max ((n : Int) - dp) 0) (h1 : 1 ≤ n) (hlC : n ≤ 20) (hC : 20 ≤ C) (hC2 : C ≤ 100) (hd0 : -3 ≤ dp) (hd1 : dp ≤ 20) (hpos : dp ≤ 0) :
    Calls Tryz.prog 303 #[v0, .bool true, .slice (some ⟨b, 0, none⟩) C C, .int .i64 dp, .int .i64 n, .int .i64 pr, .int .u8 102, .bool true] w
      fun e w' => ∃ v, e = .returned v ∧ St w base b l v (decT true l dp) w' := by
  have HST := Aside0.mk hst
  have HN := Aside0.mk hn
  have HPR := Aside0.mk hpr
  have HLEN := Aside0.mk (show n ≤ 20 ∧ dp ≤ 20 ∧ -3 ≤ dp from ⟨hlC, hd1, hd0⟩)
  clear hst hn
  obtain ⟨d, rfl⟩ : ∃ d : Nat, dp = -(d : Int) := ⟨(-dp).toNat, by omega⟩
  have cp : decide (-(d : Int) > 0) = false := decide_eq_false (by omega)
  have hd2 : d ≤ 3 := by omega
  have hpd : (pr : Int) = (n : Int) + (d : Int) := by omega
  have HPD := Aside0.mk hpd
  have cq : decide ((pr : Int) > 0) = true := decide_eq_true (by omega)
  have cq2 : decide (0 < pr) = true := decide_eq_true (by omega)
  have k1 : max 0 (d : Int) = (d : Int) := by omega
  have k2 : min (pr : Int) (d : Int) = (d : Int) := by omega
  have k3 : -(d : Int) + (d : Int) = 0 := by omega
  have k4 : (pr : Int) - (d : Int) = (n : Int) := by omega
  have k5 : max 0 (n : Int) = (n : Int) := by omega
  have hnC : n ≤ C := by omega
  have hpr2 : pr ≤ 23 := by omega
  clear hpd
  clear hpr hpos
  go_enter Tryz.func303, Tryz.ntmps303
  obtain ⟨wo, hwo⟩ : ∃ wo : World, wo = w := ⟨_, rfl⟩
  rw [← hwo] at HST
  rw [← hwo]
  clear hwo
  go_wp2_with (first | (at_builtin; refine app1 45 rfl _ _ rfl rfl rfl HST.out (by simp) ?_; intro v1 w1 hst1; have HST1 := Aside0.mk hst1; clear hst1) | (at_builtin; refine app1 48 rfl _ _ rfl rfl rfl HST1.out (by simp) ?_; intro v2 w2 hst2; have HST2 := Aside0.mk hst2; clear hst2) | (at_builtin; refine app1 46 rfl _ _ rfl rfl rfl HST2.out (by simp) ?_; intro v3 w3 hst3; have HST3 := Aside0.mk hst3; clear hst3))
  go_loopg [0, 240] (d + 1) (fun g va  vc w' => ∃ j : Nat, vc = .int .i64 (j : Int) ∧ j + g = d + 1 ∧ j ≤ d ∧ Aside0 (St wo base b l va ([45] ++ [48] ++ [46] ++ zeros j) w'))
  case atStart => exact ⟨0, rfl, by omega, by omega, ⟨by simpa [zeros] using HST3.out⟩⟩
  case round =>
    obtain ⟨j, rfl, hjg, hjm, HS⟩ := hrel
    by_cases hlt : j < d
    · obtain ⟨g1, rfl⟩ : ∃ m, gk = m + 1 := ⟨gk - 1, by omega⟩
      have clt : decide ((j : Int) < (d : Int)) = true := decide_eq_true (by omega)
      go_wp2_with (at_builtin; refine app1 48 rfl _ _ rfl rfl rfl HS.out (by simp [zeros]; have := HLEN.out; omega) ?_; intro v2 w2 hst2; have HS2 := Aside0.mk hst2; clear hst2)
      go_roundg g1
      case measure => omega
      case rel =>
        refine ⟨j + 1, by go_num, by omega, by omega, ⟨?_⟩⟩
        have h2 := HS2.out
        rw [List.append_assoc] at h2
        rw [show zeros (j + 1) = zeros j ++ [48] from List.replicate_succ']
        exact h2
    · have hje : j = d := by omega
      have clt : decide ((j : Int) < (d : Int)) = false := decide_eq_false (by omega)
      have HJ := Aside0.mk (show St wo base b l u0 ([45] ++ [48] ++ [46] ++ zeros d) wr by rw [← hje]; exact HS.out)
      clear hje hjg HS
      have HST4 := HJ
      clear HJ
      go_wp2_with fail
      go_loopg [0, 247] (n + 1) (fun g va  vc w' => ∃ j : Nat, vc = .int .i64 (j : Int) ∧ j + g = n + 1 ∧ j ≤ n ∧ Aside0 (St wo base b l va ([45] ++ [48] ++ [46] ++ zeros d ++ (l.drop 0).take j) w'))
      case atStart => exact ⟨0, rfl, by omega, by omega, ⟨by simpa [zeros] using HST4.out⟩⟩
      case round =>
        obtain ⟨j, rfl, hjg, hjm, HS⟩ := hrel
        by_cases hlt : j < n
        · obtain ⟨g1, rfl⟩ : ∃ m, gk = m + 1 := ⟨gk - 1, by omega⟩
          have clt : decide ((j : Int) < (n : Int)) = true := decide_eq_true (by omega)
          obtain ⟨x, hx⟩ : ∃ x, l[0 + j]? = some x := ⟨l[0 + j]'(by have := HN.out; omega), List.getElem?_eq_getElem _⟩
          have cx := HS.out.bys (0 + j) x hx
          have HX := Aside0.mk hx
          rw [Nat.zero_add] at cx
          clear hx
          go_wp2_with (at_builtin; refine app1 x rfl _ _ rfl rfl rfl HS.out (by have := HN.out; have := HLEN.out; simp [zeros]; omega) ?_; intro v2 w2 hst2; have HS2 := Aside0.mk hst2; clear hst2)
          go_roundg g1
          case measure => omega
          case rel =>
            refine ⟨j + 1, by go_num, by omega, by omega, ⟨?_⟩⟩
            have h2 := HS2.out
            rw [List.append_assoc] at h2
            rw [List.take_add_one, List.getElem?_drop, HX.out]
            exact h2
        · have hje : j = n := by omega
          have clt : decide ((j : Int) < (n : Int)) = false := decide_eq_false (by omega)
          have HJ := Aside0.mk (show St wo base b l u0 ([45] ++ [48] ++ [46] ++ zeros d ++ (l.drop 0).take n) wr by rw [← hje]; exact HS.out)
          clear hje hjg HS
          have HST5 := HJ
          clear HJ
          go_wp2_with fail
          refine wp_loop_rounds 1 ?_
          rw [rounds_succ]
          go_wp2_with fail
          refine bodyPost_ret (v := u0) (by simp [results, Tryz.results303, go_sem]) rfl ⟨u0, rfl, ?_⟩
          rw [show decT true l (-(d : Int)) = [45] ++ [48] ++ [46] ++ zeros d ++ (l.drop 0).take n by
              have hnl := HN.out
              unfold decT wholeT fracT
              rw [if_neg (by omega), if_pos (by omega), hnl, show (- -(d : Int)).toNat = d by omega, show (-(d : Int)).toNat = 0 by omega]
              simp [zeros]]
          exact HST5.out

set_option maxHeartbeats 2000000 in
set_option maxRecDepth 100000 in
theorem fmtFPP (v0 : Value) (b C n pr : Nat) (l : List UInt8) (dp : Int) (base : Nat) (w : World) (hst : St w base b l v0 [] w)
    (hn : n = l.length) (hpr : (pr : Int) = max ((n : Int) - dp) 0) (h1 : 1 ≤ n) (hlC : n ≤ 20) (hC : 20 ≤ C) (hC2 : C ≤ 100) (hd0 : -3 ≤ dp) (hd1 : dp ≤ 20) (hpos : 0 < dp) :
    Calls Tryz.prog 303 #[v0, .bool false, .slice (some ⟨b, 0, none⟩) C C, .int .i64 dp, .int .i64 n, .int .i64 pr, .int .u8 102, .bool true] w
      fun e w' => ∃ v, e = .returned v ∧ St w base b l v (decT false l dp) w' := by
  have HST := Aside0.mk hst
  have HN := Aside0.mk hn
  have HPR := Aside0.mk hpr
  have HLEN := Aside0.mk (show n ≤ 20 ∧ dp ≤ 20 ∧ -3 ≤ dp from ⟨hlC, hd1, hd0⟩)
  clear hst hn
  obtain ⟨d, rfl⟩ : ∃ d : Nat, dp = (d : Int) := ⟨dp.toNat, by omega⟩
  have cp : decide ((d : Int) > 0) = true := decide_eq_true (by omega)
  have cp2 : decide (0 < d) = true := decide_eq_true (by omega)
  have hd1 : 1 ≤ d := by omega
  have hd2 : d ≤ 20 := by omega
  obtain ⟨m, hm⟩ : ∃ m : Nat, min (n : Int) (d : Int) = (m : Int) := ⟨min n d, by omega⟩
  have hmn : m ≤ n := by omega
  have hmd : m ≤ d := by omega
  obtain ⟨z, hz⟩ : ∃ z : Nat, (d : Int) - (m : Int) = (z : Int) := ⟨d - m, by omega⟩
  have hmc : m ≤ C := by omega
  clear hpr hpos
  go_enter Tryz.func303, Tryz.ntmps303
  obtain ⟨wo, hwo⟩ : ∃ wo : World, wo = w := ⟨_, rfl⟩
  rw [← hwo] at HST
  rw [← hwo]
  clear hwo
  have HST1 := HST
  go_wp2_with fail
  go_loopg [0, 191] (m + 1) (fun g va  vc w' => ∃ j : Nat, vc = .int .i64 (j : Int) ∧ j + g = m + 1 ∧ j ≤ m ∧ Aside0 (St wo base b l va ([] ++ (l.drop 0).take j) w'))
  case atStart => exact ⟨0, rfl, by omega, by omega, ⟨by simpa [zeros] using HST1.out⟩⟩
  case round =>
    obtain ⟨j, rfl, hjg, hjm, HS⟩ := hrel
    by_cases hlt : j < m
    · obtain ⟨g1, rfl⟩ : ∃ m, gk = m + 1 := ⟨gk - 1, by omega⟩
      have clt : decide ((j : Int) < (m : Int)) = true := decide_eq_true (by omega)
      obtain ⟨x, hx⟩ : ∃ x, l[0 + j]? = some x := ⟨l[0 + j]'(by have := HN.out; omega), List.getElem?_eq_getElem _⟩
      have cx := HS.out.bys (0 + j) x hx
      have HX := Aside0.mk hx
      rw [Nat.zero_add] at cx
      clear hx
      go_wp2_with (at_builtin; refine app1 x rfl _ _ rfl rfl rfl HS.out (by have := HN.out; have := HLEN.out; simp [zeros]; omega) ?_; intro v2 w2 hst2; have HS2 := Aside0.mk hst2; clear hst2)
      go_roundg g1
      case measure => omega
      case rel =>
        refine ⟨j + 1, by go_num, by omega, by omega, ⟨?_⟩⟩
        have h2 := HS2.out
        rw [List.append_assoc] at h2
        rw [List.take_add_one, List.getElem?_drop, HX.out]
        exact h2
    · have hje : j = m := by omega
      have clt : decide ((j : Int) < (m : Int)) = false := decide_eq_false (by omega)
      have HJ := Aside0.mk (show St wo base b l u0 ([] ++ (l.drop 0).take m) wr by rw [← hje]; exact HS.out)
      clear hje hjg HS
      have HST2 := HJ
      clear HJ
      go_wp2_with fail
      go_loopg [0, 203] (z + 1) (fun g va  vc w' => ∃ j : Nat, vc = .int .i64 (j : Int) ∧ j + g = z + 1 ∧ j ≤ z ∧ Aside0 (St wo base b l va ([] ++ (l.drop 0).take m ++ zeros j) w'))
      case atStart => exact ⟨0, rfl, by omega, by omega, ⟨by simpa [zeros] using HST2.out⟩⟩
      case round =>
        obtain ⟨j, rfl, hjg, hjm, HS⟩ := hrel
        by_cases hlt : j < z
        · obtain ⟨g1, rfl⟩ : ∃ m, gk = m + 1 := ⟨gk - 1, by omega⟩
          have clt : decide ((j : Int) < (z : Int)) = true := decide_eq_true (by omega)
          go_wp2_with (at_builtin; refine app1 48 rfl _ _ rfl rfl rfl HS.out (by simp [zeros]; have := HLEN.out; omega) ?_; intro v2 w2 hst2; have HS2 := Aside0.mk hst2; clear hst2)
          go_roundg g1
          case measure => omega
          case rel =>
            refine ⟨j + 1, by go_num, by omega, by omega, ⟨?_⟩⟩
            have h2 := HS2.out
            rw [List.append_assoc] at h2
            rw [show zeros (j + 1) = zeros j ++ [48] from List.replicate_succ']
            exact h2
        · have hje : j = z := by omega
          have clt : decide ((j : Int) < (z : Int)) = false := decide_eq_false (by omega)
          have HJ := Aside0.mk (show St wo base b l u0 ([] ++ (l.drop 0).take m ++ zeros z) wr by rw [← hje]; exact HS.out)
          clear hje hjg HS
          have HST3 := HJ
          clear HJ
          by_cases hp : d < n
          · have cq : decide ((pr : Int) > 0) = true := decide_eq_true (by have := HPR.out; omega)
            have cq2 : decide (0 < pr) = true := decide_eq_true (by have := HPR.out; omega)
            have k1 : max 0 (-(d : Int)) = 0 := by omega
            have k2 : min (pr : Int) 0 = 0 := by omega
            have k3 : max 0 ((n : Int) - (d : Int)) = (pr : Int) := by have := HPR.out; omega
            go_wp2_with (at_builtin; refine app1 46 rfl _ _ rfl rfl rfl HST3.out (by have := HN.out; have := HLEN.out; simp [zeros]; omega) ?_; intro v4 w4 hst4; have HST4 := Aside0.mk hst4; clear hst4)
            refine wp_loop_rounds 1 ?_
            rw [rounds_succ]
            go_wp2_with fail
            go_loopg [0, 247] (pr + 1) (fun g va  vc w' => ∃ j : Nat, vc = .int .i64 (j : Int) ∧ j + g = pr + 1 ∧ j ≤ pr ∧ Aside0 (St wo base b l va ([] ++ (l.drop 0).take m ++ zeros z ++ [46] ++ (l.drop d).take j) w'))
            case atStart => exact ⟨0, rfl, by omega, by omega, ⟨by simpa [zeros] using HST4.out⟩⟩
            case round =>
              obtain ⟨j, rfl, hjg, hjm, HS⟩ := hrel
              by_cases hlt : j < pr
              · obtain ⟨g1, rfl⟩ : ∃ m, gk = m + 1 := ⟨gk - 1, by omega⟩
                have clt : decide ((j : Int) < (pr : Int)) = true := decide_eq_true (by omega)
                obtain ⟨x, hx⟩ : ∃ x, l[d + j]? = some x := ⟨l[d + j]'(by have := HN.out; omega), List.getElem?_eq_getElem _⟩
                have cx := HS.out.bys (d + j) x hx
                have HX := Aside0.mk hx
                clear hx
                go_wp2_with (at_builtin; refine app1 x rfl _ _ rfl rfl rfl HS.out (by have := HN.out; have := HLEN.out; simp [zeros]; omega) ?_; intro v2 w2 hst2; have HS2 := Aside0.mk hst2; clear hst2)
                go_roundg g1
                case measure => omega
                case rel =>
                  refine ⟨j + 1, by go_num, by omega, by omega, ⟨?_⟩⟩
                  have h2 := HS2.out
                  rw [List.append_assoc] at h2
                  rw [List.take_add_one, List.getElem?_drop, HX.out]
                  exact h2
              · have hje : j = pr := by omega
                have clt : decide ((j : Int) < (pr : Int)) = false := decide_eq_false (by omega)
                have HJ := Aside0.mk (show St wo base b l u0 ([] ++ (l.drop 0).take m ++ zeros z ++ [46] ++ (l.drop d).take pr) wr by rw [← hje]; exact HS.out)
                clear hje hjg HS
                have HST5 := HJ
                clear HJ
                go_wp2_with fail
                refine wp_loop_rounds 1 ?_
                rw [rounds_succ]
                go_wp2_with fail
                refine bodyPost_ret (v := u0) (by simp [results, Tryz.results303, go_sem]) rfl ⟨u0, rfl, ?_⟩
                rw [show decT false l (d : Int) = [] ++ (l.drop 0).take m ++ zeros z ++ [46] ++ (l.drop d).take pr by
                    have hnl := HN.out
                    have hq := HPR.out
                    have hmd2 : m = d := by omega
                    have hz0 : z = 0 := by omega
                    have hpr2 : pr = l.length - d := by omega
                    rw [hmd2, hz0, hpr2]
                    unfold decT wholeT fracT
                    rw [if_pos (by omega), if_pos (by omega), Int.toNat_natCast, show d - l.length = 0 by omega, show (-(d : Int)).toNat = 0 by omega]
                    rw [List.take_of_length_le (l := l.drop d) (by simp)]
                    simp [zeros]]
                exact HST5.out
          · have cq : decide ((pr : Int) > 0) = false := decide_eq_false (by have := HPR.out; omega)
            have cq2 : decide (0 < pr) = false := decide_eq_false (by have := HPR.out; omega)
            go_wp2_with fail
            refine bodyPost_ret (v := u0) (by simp [results, Tryz.results303, go_sem]) rfl ⟨u0, rfl, ?_⟩
            rw [show decT false l (d : Int) = [] ++ (l.drop 0).take m ++ zeros z by
                have hnl := HN.out
                have hq := HPR.out
                have hmd2 : m = l.length := by omega
                have hz0 : z = d - l.length := by omega
                rw [hmd2, hz0]
                unfold decT wholeT fracT
                rw [if_pos (by omega), if_neg (by omega), Int.toNat_natCast, List.take_of_length_le (l := l) (show l.length ≤ d by omega)]
                simp [zeros]]
            exact HST3.out

set_option maxHeartbeats 2000000 in
set_option maxRecDepth 100000 in
theorem fmtFPZ (v0 : Value) (b C n pr : Nat) (l : List UInt8) (dp : Int) (base : Nat) (w : World) (hst : St w base b l v0 [] w)
    (hn : n = l.length) (hpr : (pr : Int) = max ((n : Int) - dp) 0) (h1 : 1 ≤ n) (hlC : n ≤ 20) (hC : 20 ≤ C) (hC2 : C ≤ 100) (hd0 : -3 ≤ dp) (hd1 : dp ≤ 20) (hpos : dp ≤ 0) :
    Calls Tryz.prog 303 #[v0, .bool false, .slice (some ⟨b, 0, none⟩) C C, .int .i64 dp, .int .i64 n, .int .i64 pr, .int .u8 102, .bool true] w
      fun e w' => ∃ v, e = .returned v ∧ St w base b l v (decT false l dp) w' := by
  have HST := Aside0.mk hst
  have HN := Aside0.mk hn
  have HPR := Aside0.mk hpr
  have HLEN := Aside0.mk (show n ≤ 20 ∧ dp ≤ 20 ∧ -3 ≤ dp from ⟨hlC, hd1, hd0⟩)
  clear hst hn
  obtain ⟨d, rfl⟩ : ∃ d : Nat, dp = -(d : Int) := ⟨(-dp).toNat, by omega⟩
  have cp : decide (-(d : Int) > 0) = false := decide_eq_false (by omega)
  have hd2 : d ≤ 3 := by omega
  have hpd : (pr : Int) = (n : Int) + (d : Int) := by omega
  have HPD := Aside0.mk hpd
  have cq : decide ((pr : Int) > 0) = true := decide_eq_true (by omega)
  have cq2 : decide (0 < pr) = true := decide_eq_true (by omega)
  have k1 : max 0 (d : Int) = (d : Int) := by omega
  have k2 : min (pr : Int) (d : Int) = (d : Int) := by omega
  have k3 : -(d : Int) + (d : Int) = 0 := by omega
  have k4 : (pr : Int) - (d : Int) = (n : Int) := by omega
  have k5 : max 0 (n : Int) = (n : Int) := by omega
  have hnC : n ≤ C := by omega
  have hpr2 : pr ≤ 23 := by omega
  clear hpd
  clear hpr hpos
  go_enter Tryz.func303, Tryz.ntmps303
  obtain ⟨wo, hwo⟩ : ∃ wo : World, wo = w := ⟨_, rfl⟩
  rw [← hwo] at HST
  rw [← hwo]
  clear hwo
  have HST1 := HST
  go_wp2_with (first | (at_builtin; refine app1 48 rfl _ _ rfl rfl rfl HST1.out (by simp) ?_; intro v2 w2 hst2; have HST2 := Aside0.mk hst2; clear hst2) | (at_builtin; refine app1 46 rfl _ _ rfl rfl rfl HST2.out (by simp) ?_; intro v3 w3 hst3; have HST3 := Aside0.mk hst3; clear hst3))
  go_loopg [0, 240] (d + 1) (fun g va  vc w' => ∃ j : Nat, vc = .int .i64 (j : Int) ∧ j + g = d + 1 ∧ j ≤ d ∧ Aside0 (St wo base b l va ([] ++ [48] ++ [46] ++ zeros j) w'))
  case atStart => exact ⟨0, rfl, by omega, by omega, ⟨by simpa [zeros] using HST3.out⟩⟩
  case round =>
    obtain ⟨j, rfl, hjg, hjm, HS⟩ := hrel
    by_cases hlt : j < d
    · obtain ⟨g1, rfl⟩ : ∃ m, gk = m + 1 := ⟨gk - 1, by omega⟩
      have clt : decide ((j : Int) < (d : Int)) = true := decide_eq_true (by omega)
      go_wp2_with (at_builtin; refine app1 48 rfl _ _ rfl rfl rfl HS.out (by simp [zeros]; have := HLEN.out; omega) ?_; intro v2 w2 hst2; have HS2 := Aside0.mk hst2; clear hst2)
      go_roundg g1
      case measure => omega
      case rel =>
        refine ⟨j + 1, by go_num, by omega, by omega, ⟨?_⟩⟩
        have h2 := HS2.out
        rw [List.append_assoc] at h2
        rw [show zeros (j + 1) = zeros j ++ [48] from List.replicate_succ']
        exact h2
    · have hje : j = d := by omega
      have clt : decide ((j : Int) < (d : Int)) = false := decide_eq_false (by omega)
      have HJ := Aside0.mk (show St wo base b l u0 ([] ++ [48] ++ [46] ++ zeros d) wr by rw [← hje]; exact HS.out)
      clear hje hjg HS
      have HST4 := HJ
      clear HJ
      go_wp2_with fail
      go_loopg [0, 247] (n + 1) (fun g va  vc w' => ∃ j : Nat, vc = .int .i64 (j : Int) ∧ j + g = n + 1 ∧ j ≤ n ∧ Aside0 (St wo base b l va ([] ++ [48] ++ [46] ++ zeros d ++ (l.drop 0).take j) w'))
      case atStart => exact ⟨0, rfl, by omega, by omega, ⟨by simpa [zeros] using HST4.out⟩⟩
      case round =>
        obtain ⟨j, rfl, hjg, hjm, HS⟩ := hrel
        by_cases hlt : j < n
        · obtain ⟨g1, rfl⟩ : ∃ m, gk = m + 1 := ⟨gk - 1, by omega⟩
          have clt : decide ((j : Int) < (n : Int)) = true := decide_eq_true (by omega)
          obtain ⟨x, hx⟩ : ∃ x, l[0 + j]? = some x := ⟨l[0 + j]'(by have := HN.out; omega), List.getElem?_eq_getElem _⟩
          have cx := HS.out.bys (0 + j) x hx
          have HX := Aside0.mk hx
          rw [Nat.zero_add] at cx
          clear hx
          go_wp2_with (at_builtin; refine app1 x rfl _ _ rfl rfl rfl HS.out (by have := HN.out; have := HLEN.out; simp [zeros]; omega) ?_; intro v2 w2 hst2; have HS2 := Aside0.mk hst2; clear hst2)
          go_roundg g1
          case measure => omega
          case rel =>
            refine ⟨j + 1, by go_num, by omega, by omega, ⟨?_⟩⟩
            have h2 := HS2.out
            rw [List.append_assoc] at h2
            rw [List.take_add_one, List.getElem?_drop, HX.out]
            exact h2
        · have hje : j = n := by omega
          have clt : decide ((j : Int) < (n : Int)) = false := decide_eq_false (by omega)
          have HJ := Aside0.mk (show St wo base b l u0 ([] ++ [48] ++ [46] ++ zeros d ++ (l.drop 0).take n) wr by rw [← hje]; exact HS.out)
          clear hje hjg HS
          have HST5 := HJ
          clear HJ
          go_wp2_with fail
          refine wp_loop_rounds 1 ?_
          rw [rounds_succ]
          go_wp2_with fail
          refine bodyPost_ret (v := u0) (by simp [results, Tryz.results303, go_sem]) rfl ⟨u0, rfl, ?_⟩
          rw [show decT false l (-(d : Int)) = [] ++ [48] ++ [46] ++ zeros d ++ (l.drop 0).take n by
              have hnl := HN.out
              unfold decT wholeT fracT
              rw [if_neg (by omega), if_pos (by omega), hnl, show (- -(d : Int)).toNat = d by omega, show (-(d : Int)).toNat = 0 by omega]
              simp [zeros]]
          exact HST5.out

theorem fmtF_calls (neg : Bool) (v0 : Value) (b C n pr : Nat) (l : List UInt8) (dp : Int) (base : Nat) (w : World) (hst : St w base b l v0 [] w)
    (hn : n = l.length) (hpr : (pr : Int) = max ((n : Int) - dp) 0) (h1 : 1 ≤ n) (hlC : n ≤ 20) (hC : 20 ≤ C) (hC2 : C ≤ 100) (hd0 : -3 ≤ dp) (hd1 : dp ≤ 20) :
    Calls Tryz.prog 303 #[v0, .bool neg, .slice (some ⟨b, 0, none⟩) C C, .int .i64 dp, .int .i64 n, .int .i64 pr, .int .u8 102, .bool true] w
      fun e w' => ∃ v, e = .returned v ∧ St w base b l v (decT neg l dp) w' := by
  by_cases hp : 0 < dp
  · cases neg
    · exact fmtFPP v0 b C n pr l dp base w hst hn hpr h1 hlC hC hC2 hd0 hd1 hp
    · exact fmtFNP v0 b C n pr l dp base w hst hn hpr h1 hlC hC hC2 hd0 hd1 hp
  · cases neg
    · exact fmtFPZ v0 b C n pr l dp base w hst hn hpr h1 hlC hC hC2 hd0 hd1 (by omega)
    · exact fmtFNZ v0 b C n pr l dp base w hst hn hpr h1 hlC hC hC2 hd0 hd1 (by omega)

set_option maxRecDepth 100000 in
theorem fmt0_calls (v0 : Value) (b : Nat) (l : List UInt8) (base : Nat) (w : World) (hst : St w base b l v0 [] w) :
    Calls Tryz.prog 303 #[v0, .bool false, .slice none 0 0, .int .i64 0, .int .i64 0, .int .i64 (-1), .int .u8 102, .bool true] w
      fun e w' => ∃ v, e = .returned v ∧ St w base b l v [48] w' := by
  have HST := Aside0.mk hst
  clear hst
  go_enter Tryz.func303, Tryz.ntmps303
  obtain ⟨wo, hwo⟩ : ∃ wo : World, wo = w := ⟨_, rfl⟩
  rw [← hwo] at HST
  rw [← hwo]
  clear hwo
  go_wp2_with (at_builtin; refine app1 48 rfl _ _ rfl rfl rfl HST.out (by simp) ?_; intro v1 w1 hst1; have HST1 := Aside0.mk hst1; clear hst1)
  refine bodyPost_ret (v := v1) (by simp [results, Tryz.results303, go_sem]) rfl ⟨v1, rfl, HST1.out⟩
end Go.Proofs.YtobbfenkdnaanaaGreatDoor
