/- spec.Mixed -/
import Derived.Test.YtmphoafjeojodaaDoorWq
import Derived.BigQuiet
import Derived.BigRegion
import Derived.RegionTactic
import Derived.Deep.RegionWith
import Derived.IntWalk
namespace Go.Proofs.YtmphoafjeojodaaDoor
open Go.RowKit

theorem letter_alpha' (j : Nat) (h : j < 6) : Alpha (letter j) := letter_alpha j h
theorem enc_b : enc [32] = ⟨#[32]⟩ := by decide
theorem enc_n : enc [10] = ⟨#[10]⟩ := by decide

set_option maxRecDepth 100000 in
set_option maxHeartbeats 3200000 in
theorem mixed_core (ao : Option Addr) (b0 off0 len0 cap0 : Nat) (z0 : List Int) (w : World)
   (ho0 : 0 < len0 → ao = some ⟨b0, off0, none⟩) (hb0 : 0 < len0 → b0 < w.heap.size) (h0 : len0 ≤ 2147483647) (hc0 : ∀ i, i < len0 → w.cell? ⟨b0, off0 + i, none⟩ = some (.int .u8 (z0.getD i 0)))
   (hw0 : ∀ i, i < len0 → 0 ≤ z0.getD i 0 ∧ z0.getD i 0 ≤ 255) :
    Calls Tryd.prog 4 #[.slice ao len0 cap0] w fun e w' => ∃ rs : List Int, e = .returned (.string (enc rs)) ∧ AllA' rs ∧ rs.length ≤ 200 ∧ Below w.heap.size w w' := by
  go_enter Tryd.func4, Tryd.ntmps4
  go_wp2
  go_loopw [3, 4] (fun x i wr => ∃ (k : Nat) (rs : List Int), k ≤ 200 ∧ k ≤ len0 ∧ i = .int .i64 k ∧ x = .string (enc rs) ∧ AllA' rs ∧ rs.length ≤ k ∧ Below w.heap.size w wr) (fun _ i _ => 200 - (intOf i).toNat)
  case atStart => exact ⟨0, [], by omega, by omega, rfl, rfl, alla_nil, by simp, Below.refl _ _⟩
  case round =>
    obtain ⟨k, rs, hk, hk0, rfl, rfl, hs, hl2, hnx⟩ := hrel
    have hss := (enc_size_le rs hs).2
    have HS := Lib.hid hs
    have hsz := hnx.size
    clear hs
    rcases (show (k < len0 ∧ k < 200) ∨ ¬ k < len0 ∨ (k < len0 ∧ ¬ k < 200) from by omega) with ⟨hl, h20⟩ | hx | ⟨hl, hx⟩
    · have hz := hw0 k hl
      have hcell : wr.cell? ⟨b0, off0 + k, none⟩ = some (.int .u8 (z0.getD k 0)) := (hnx.cell (by exact hb0 (by omega))).trans (hc0 k hl)
      obtain ⟨z, hzz⟩ : ∃ z, z = z0.getD k 0 := ⟨_, rfl⟩
      rw [← hzz] at hz hcell
      clear hzz
      have hb0r : b0 < wr.heap.size := by have := hb0 (by omega); omega
      have e0 := ho0 (by omega)
      clear ho0
      subst e0
      have hzt : z.tmod 9 = z % 9 := Int.tmod_eq_emod_of_nonneg hz.1
      rcases (show z % 9 = 0 ∨ z % 9 = 1 ∨ z % 9 = 2 ∨ ∃ j : Nat, j < 6 ∧ z % 9 = (j : Int) + 3 from by
        by_cases h : z % 9 < 3
        · omega
        · exact .inr (.inr (.inr ⟨(z % 9 - 3).toNat, by omega, by omega⟩))) with hq | hq | hq | ⟨j, hj6, hq⟩
      · rw [hq] at hzt
        go_wp2
        go_roundw
        case rel => exact ⟨k + 1, rs ++ [32], by omega, by omega, by go_num, by rw [enc_append, enc_b], alla_app HS.out (alla_one alpha32), by simp; omega, hnx⟩
        case measure => simp [intOf]; omega
      · rw [hq] at hzt
        go_wp2
        go_roundw
        case rel => exact ⟨k + 1, rs ++ [32], by omega, by omega, by go_num, by rw [enc_append, enc_b], alla_app HS.out (alla_one alpha32), by simp; omega, hnx⟩
        case measure => simp [intOf]; omega
      · rw [hq] at hzt
        go_wp2
        go_roundw
        case rel => exact ⟨k + 1, rs ++ [10], by omega, by omega, by go_num, by rw [enc_append, enc_n], alla_app HS.out (alla_one alpha10), by simp; omega, hnx⟩
        case measure => simp [intOf]; omega
      · rw [hq] at hzt
        have e0 : ((j : Int) + 3 == 0) = false := by simp; omega
        have e1 : ((j : Int) + 3 == 1) = false := by simp; omega
        have e2 : ((j : Int) + 3 == 2) = false := by simp; omega
        have hj7 : (j : Int) < 6 := by omega
        have hj8 : (0 : Int) ≤ (j : Int) := by omega
        have hlet := letBlock_cell wr j hj6
        have hes := letter_size j
        have hadd : ¬ ((enc rs).size + (Utf8.encode (letter j)).size > 9223372036854775807) := by omega
        have hw1 : IntKind.u8.wrap ((j : Int) + 3 - 3) = (j : Int) := by rw [show (j : Int) + 3 - 3 = (j : Int) from by omega]; exact IntWalk.u8_in _ (by omega)
        have hw2 : (j : Int) + 3 - 3 = (j : Int) := by omega
        have hw3 : IntKind.u8.wrap (j : Int) = (j : Int) := IntWalk.u8_in _ (by omega)
        go_wp2_with fail
        go_region_with (go_at_call 9; refine (letters_any _).mono ?_; rintro e w' ⟨rfl, rfl⟩)
        all_goals
          go_wp2
          go_roundw
          case rel => exact ⟨k + 1, rs ++ [letter j], by omega, by omega, by go_num, by rw [enc_snoc], alla_app HS.out (alla_one (letter_alpha j hj6)), by simp; omega, by first | exact (hnx.alloc hsz _).drew | exact hnx.drew.alloc hsz _⟩
          case measure => simp [intOf]; omega
    all_goals
      go_wp2
      go_ret
      exact ⟨rs, rfl, HS.out, by omega, hnx⟩
end Go.Proofs.YtmphoafjeojodaaDoor
