/- The package's EscapeName: by underscores. -/
import Derived.Test.YtaajhionmdjhjaaDoorEscP
import Derived.Test.YtaajhionmdjhjaaDoorNamB
set_option linter.unusedVariables false
set_option linter.unusedSimpArgs false
namespace Go.Proofs.YtaajhionmdjhjaaDoor
open Go.RowKit

theorem piece1_ok {c : Int} {pos : Nat} (h : LegOk c pos true) : piece 1 c pos = oneB c := by unfold piece; rw [if_pos rfl, if_pos h]
theorem piece1_no {c : Int} {pos : Nat} (h : ¬ LegOk c pos true) : piece 1 c pos = [95] := by unfold piece; rw [if_pos rfl, if_neg h]
theorem legOk_lt {c : Int} {pos : Nat} (h : LegOk c pos true) : 0 ≤ c ∧ c < 128 := by unfold LegOk at h; omega
theorem bytes_one {acc : List UInt8} {c : Int} (h : 0 ≤ c ∧ c < 128) : Lib.byteCells (acc ++ oneB c) = Lib.byteCells acc ++ [.int .u8 c] := by
  have h1 : (UInt8.ofNat c.toNat).toNat = c.toNat := by rw [UInt8.toNat_ofNat']; omega
  have h2 : ((c.toNat : Nat) : Int) = c := Int.toNat_of_nonneg h.1
  unfold Lib.byteCells oneB
  rw [List.map_append, List.map_cons, List.map_nil, h1, h2]
theorem bytes_len (acc : List UInt8) : (Lib.byteCells acc).length = acc.length := by simp [Lib.byteCells]

theorem fresh_below {wo w1 : World} (hb : Below (wo.alloc (.cells #[.pointer none, .slice none 0 0] 99)).heap.size (wo.alloc (.cells #[.pointer none, .slice none 0 0] 99)) w1) :
    Lib.IsBuilderF 99 5 wo.heap.size wo.heap.size [] w1 :=
  .inl ⟨Nat.le_refl _, .slice none 0 0, (hb.block _ (by simp)).trans (by simp [World.alloc, -World.alloc_eq]), ⟨rfl, .inl ⟨rfl, rfl⟩⟩, by simp [Value.ownBlock]⟩
theorem below_fresh {wo w1 : World} (hb : Below (wo.alloc (.cells #[.pointer none, .slice none 0 0] 99)).heap.size (wo.alloc (.cells #[.pointer none, .slice none 0 0] 99)) w1) : Below wo.heap.size wo w1 :=
  below_step (below_alloc (Below.refl _ _) _) hb

set_option maxHeartbeats 2000000 in
set_option maxRecDepth 100000 in
theorem escape1_calls (s : ByteArray) (hs : s.size ≤ 200) (h0 : s.size ≠ 0) (hl : ¬ Legal s true) (w : World) :
    Calls Tryd.prog 64 #[.string s, .int .i64 1] w fun e w' => e = .returned (.string ⟨(escT 1 s).toArray⟩) ∧ Below w.heap.size w w' := by
  have c0 : ((s.size : Int) == 0) = false := beq_eq_false_iff_ne.2 (by omega)
  have HL := Aside0.mk (legB_false hl)
  clear h0 hl
  obtain ⟨wo, hwo⟩ : ∃ wo : World, wo = w := ⟨_, rfl⟩
  subst hwo
  go_enter Tryd.func64, Tryd.ntmps64
  go_wp2_with (go_at_call 60; refine (metricLegacy_calls s (by omega) _).mono ?_; rintro e w1 ⟨rfl, hb⟩; rw [HL.out])
  have hn : wo.heap.size < w1.heap.size := by have := hb.size; simp at this; omega
  have hst := EscAt.start wo w1 1 s (fresh_below hb) (below_fresh hb) hn
  clear hb
  have HST := Aside0.mk hst
  clear hst
  obtain ⟨N, hN⟩ : ∃ N, w1.heap.size = N := ⟨_, rfl⟩
  rw [hN] at HST ⊢
  generalize w1.iter s 0 = wi at HST ⊢
  clear hN hn
  go_loopg [6] (s.size + 1) (fun gk v6 wr => ∃ (pos : Nat) (acc : List UInt8), Aside0 (EscAt wo N 1 s gk pos acc wr))
  case atStart => exact ⟨0, escHead 1, HST⟩
  case round =>
    obtain ⟨pos, acc, H⟩ := hrel
    by_cases hp : pos < s.size
    · obtain ⟨f, rfl⟩ : ∃ m, gk = m + 1 := ⟨gk - 1, by
        have := H.out.fuel
        rcases gk with _ | m
        · omega
        · rfl⟩
      obtain ⟨c, W1, hc, hv, hnx, hbd, hsz, hbl, hgo⟩ := H.out.next hp
      have HG := Aside0.mk hgo
      have HB := Aside0.mk hbd
      have HL2 := Aside0.mk H.out.len
      clear hgo hbd hv hbl
      by_cases hok : LegOk (c : Int) pos true
      · have HO := Aside0.mk hok
        have hd := decide_eq_true hok
        have hlt := legOk_lt hok
        clear hok
        go_wp2_with (first | (go_at_call 75; refine (legRune_calls _ pos (by omega) (by omega) (by omega) _).mono ?_; rintro e w2 ⟨rfl, rfl⟩; rw [hd]) | (go_at_call 76; refine (writeRune_calls wo.heap.size wo.heap.size _ _ hlt.1 hlt.2 _ HB.out (by rw [bytes_len]; have := HL2.out; omega) hsz).mono ?_; rintro e W2 ⟨⟨n, rfl⟩, hw⟩))
        obtain ⟨pos', hE⟩ := HG.out W2 (by rw [piece1_ok HO.out, bytes_one hlt]; exact hw)
        have HE := Aside0.mk hE
        clear hE hw
        go_wp2
        go_roundg f
        case measure => omega
        case rel => exact ⟨pos', _, HE⟩
      · have HO := Aside0.mk hok
        have hd := decide_eq_false hok
        clear hok
        go_wp2_with (first | (go_at_call 75; refine (legRune_calls _ pos (by omega) (by omega) (by omega) _).mono ?_; rintro e w2 ⟨rfl, rfl⟩; rw [hd]) | (go_at_call 76; refine (writeRune_calls wo.heap.size wo.heap.size _ _ (by omega) (by omega) _ HB.out (by rw [bytes_len]; have := HL2.out; omega) hsz).mono ?_; rintro e W2 ⟨⟨n, rfl⟩, hw⟩))
        obtain ⟨pos', hE⟩ := HG.out W2 (by rw [piece1_no HO.out]; simpa [Lib.byteCells] using hw)
        have HE := Aside0.mk hE
        clear hE hw
        go_wp2
        go_roundg f
        case measure => omega
        case rel => exact ⟨pos', _, HE⟩
    · obtain ⟨hacc, hnx⟩ := H.out.stop hp
      have HA := Aside0.mk hacc
      clear hacc
      go_wp2_with (go_at_call 77; refine (Tryd.Builder_String_any_k wo.heap.size wo.heap.size acc _ H.out.bld H.out.below.size).mono ?_; rintro e w3 ⟨rfl, hib, hb3, hok3⟩)
      go_ret
      exact ⟨by rw [HA.out]; rfl, H.out.below.trans hb3⟩
end Go.Proofs.YtaajhionmdjhjaaDoor
