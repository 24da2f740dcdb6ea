/- The reference's Hex, by contract. -/
import Derived.Test.YtobbfenkdnaanaaGreatDoorHxC
import Derived.Test.YtobbfenkdnaanaaGreatDoorQjr
set_option linter.unusedVariables false
set_option linter.unusedSimpArgs false
namespace Go.Proofs.YtobbfenkdnaanaaGreatDoor
open Go.RowKit Go.Proofs

theorem rptX : Builder.Extra Tryz.prog Tryz.laysRpt_ren := {
  sizeBuilder := by kernel_rfl
  liesBuilder := by kernel_rfl
  t5 := Tryz.underlying5
  a5 := Tryz.isAgg5
  z5 := Tryz.sizeOf5
  v5 := Tryz.zeroValue5
  infoByte := by kernel_rfl
  cellsByte := by kernel_rfl
  sizeByte := by kernel_rfl
  neB5 := by decide }

theorem rep48 : ∀ c : Fin 17, Lib.repeatL (⟨#[48]⟩ : ByteArray).data.toList c.val = List.replicate c.val 48 := by decide
theorem rep_at (c : Nat) (hc : c ≤ 16) (w : World) :
    Calls Tryz.prog 104 #[.string ⟨#[48]⟩, .int .i64 c] w fun e w' => e = .returned (.string (strOfNums (List.replicate c 48))) ∧ Below w.heap.size w w' := by
  have h := Any.strings_Repeat Tryz.laysRpt rptX ⟨#[48]⟩ c w (by omega) (by show 1 * c ≤ _; omega)
  rw [rep48 ⟨c, by omega⟩] at h
  have e : (⟨(List.replicate c (48 : UInt8)).toArray⟩ : ByteArray) = strOfNums (List.replicate c 48) := by
    unfold strOfNums
    rw [List.map_replicate]
    rfl
  rw [← e]
  exact h
theorem strOf_app (a b : List Int) : strOfNums a ++ strOfNums b = strOfNums (a ++ b) := by
  apply ByteArray.ext
  apply Array.toList_inj.mp
  rw [strOfNums_data, ByteArray.data_append, Array.toList_append, strOfNums_data, strOfNums_data, List.map_append]

set_option maxRecDepth 100000 in
theorem specHex_calls (u : Nat) (hu : u < 18446744073709551616) (w : World) (h : Ctz w) (h15 : 15 ≤ w.heap.size) :
    Calls Tryz.prog 39 #[.int .u64 (u : Int)] w fun e w' => e = .returned (.string (strOfNums (hexW 16 u))) ∧ Below w.heap.size w w' := by
  obtain ⟨hl, hp⟩ := hexL_pad u hu
  have HF := Aside0.mk (fmt16_calls u hu w h h15)
  have hsz : (hexT u).size = (hexL u).length := strOfNums_size _
  obtain ⟨n, hn⟩ : ∃ n, (hexL u).length = n := ⟨_, rfl⟩
  rw [hn] at hsz hl hp
  have HE := Aside0.mk (show strOfNums (List.replicate (16 - n) 48) ++ hexT u = strOfNums (hexW 16 u) by unfold hexT; rw [strOf_app, hp])
  obtain ⟨s, hs⟩ : ∃ s, hexT u = s := ⟨_, rfl⟩
  rw [hs] at HF hsz HE
  obtain ⟨z, hz⟩ : ∃ z, strOfNums (List.replicate (16 - n) 48) = z := ⟨_, rfl⟩
  have hzs : z.size = 16 - n := by rw [← hz, strOfNums_size, List.length_replicate]
  have hc : ((16 - n : Nat) : Int) = 16 - (n : Int) := by omega
  have HR := Aside0.mk (fun W => rep_at (16 - n) (by omega) W)
  rw [hz] at HE HR
  rw [hc] at HR
  have hb : ¬ 9223372036854775807 < z.size + s.size := by omega
  clear hs hz hp hzs hc hn h hu
  go_enter Tryz.func39, Tryz.ntmps39
  go_wp2_with fail
  refine HF.out.mono ?_
  rintro e w1 ⟨rfl, hb1⟩
  have HB1 := Aside0.mk hb1
  clear hb1
  go_wp2_with fail
  refine (HR.out _).mono ?_
  rintro e w2 ⟨rfl, hb2⟩
  have HB2 := Aside0.mk (below_step HB1.out hb2)
  clear hb2
  go_wp2_with fail
  go_ret
  exact ⟨by rw [← HE.out]; rfl, HB2.out⟩
end Go.Proofs.YtobbfenkdnaanaaGreatDoor
