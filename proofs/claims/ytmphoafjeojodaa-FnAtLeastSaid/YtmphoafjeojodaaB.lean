/- spec.Near -/
import Derived.Test.YtmphoafjeojodaaA
import Derived.BigQuiet
import Derived.BigRegion
import Derived.Deep.RegionWith
namespace Go.Proofs.Ytmphoafjeojodaa
open Go.RowKit

theorem mod6 (z : Int) (h : 0 ≤ z) : ∃ j : Nat, j < 6 ∧ z.tmod 6 = (j : Int) :=
  ⟨(z % 6).toNat, by omega, by rw [Int.tmod_eq_emod_of_nonneg h]; omega⟩

set_option maxRecDepth 100000 in
set_option maxHeartbeats 3200000 in
theorem near_core (ao0 : Option Addr) (b0 off0 len0 cap0 : Nat) (z0 : List Int) (ao1 : Option Addr) (b1 off1 len1 cap1 : Nat) (z1 : List Int) (w : World) 
   (ho0 : 0 < len0 → ao0 = some ⟨b0, off0, none⟩) (hb0 : 0 < len0 → b0 < w.heap.size) (h0 : len0 ≤ 2147483647) (hc0 : ∀ i, i < len0 → w.cell? ⟨b0, off0 + i, none⟩ = some (.int .u8 (z0.getD i 0)))
   (hw0 : ∀ i, i < len0 → 0 ≤ z0.getD i 0 ∧ z0.getD i 0 ≤ 255)
   (ho1 : 0 < len1 → ao1 = some ⟨b1, off1, none⟩) (hb1 : 0 < len1 → b1 < w.heap.size) (h1 : len1 ≤ 2147483647) (hc1 : ∀ i, i < len1 → w.cell? ⟨b1, off1 + i, none⟩ = some (.int .u8 (z1.getD i 0)))
   (hw1 : ∀ i, i < len1 → 0 ≤ z1.getD i 0 ∧ z1.getD i 0 ≤ 255) :
    Calls Try.prog 13 #[.slice ao0 len0 cap0, .slice ao1 len1 cap1] w fun e w' => ∃ x y : ByteArray, e = .returned (.tuple #[.string x, .string y]) ∧ x.size ≤ 60 ∧ y.size ≤ 60 ∧ Below w.heap.size w w' := by
  go_enter Try.func13, Try.ntmps13
  go_wp2
  go_loopw [6, 8] (fun x i wr => ∃ (k : Nat) (s : ByteArray), k ≤ 20 ∧ k ≤ len0 ∧ i = .int .i64 k ∧ x = .string s ∧ s.size ≤ 3 * k ∧ Below w.heap.size w wr) (fun _ i _ => 20 - (intOf i).toNat)
  case atStart => exact ⟨0, ByteArray.empty, by omega, by omega, rfl, rfl, by simp, Below.refl _ _⟩
  case round =>
    obtain ⟨k, s, hk, hk0, rfl, rfl, hs, hnx⟩ := hrel
    have hsz := hnx.size
    rcases (show (k < len0 ∧ k < 20) ∨ ¬ k < len0 ∨ (k < len0 ∧ ¬ k < 20) from by omega) with ⟨hl, h20⟩ | hx | ⟨hl, hx⟩
    · have hz := hw0 k hl
      have hcell : wr.cell? ⟨b0, off0 + k, none⟩ = some (.int .u8 (z0.getD k 0)) := (hnx.cell (by exact hb0 (by omega))).trans (hc0 k hl)
      obtain ⟨z, hzz⟩ : ∃ z, z = z0.getD k 0 := ⟨_, rfl⟩
      rw [← hzz] at hz hcell
      clear hzz
      have hb0r : b0 < wr.heap.size := by have := hb0 (by omega); omega
      have e0 := ho0 (by omega)
      clear ho0
      subst e0
      obtain ⟨j, hj6, hj⟩ := mod6 z hz.1
      have hj7 : (j : Int) < 6 := by omega
      have hj8 : (0 : Int) ≤ (j : Int) := by omega
      have hlet := letBlock_cell wr j hj6
      have hes := letter_size j
      have hadd : ¬ (s.size + (Utf8.encode (letter j)).size > 9223372036854775807) := by omega
      go_wp2_with fail
      go_region_with (go_at_call 33; refine (letters_any _).mono ?_; rintro e w' ⟨rfl, rfl⟩)
      all_goals
        go_wp2
        go_roundw
        case rel => exact ⟨k + 1, s ++ Utf8.encode (letter j), by omega, by omega, by go_num, rfl, by rw [ByteArray.size_append]; omega, by first | exact (hnx.alloc hsz _).drew | exact hnx.drew.alloc hsz _⟩
        case measure => simp [intOf]; omega
    all_goals
      go_wp2
      go_loopw [7, 9] (fun y i wr => ∃ (k : Nat) (s : ByteArray), k ≤ 20 ∧ i = .int .i64 k ∧ y = .string s ∧ s.size ≤ 3 * k ∧ Below w.heap.size w wr) (fun _ i _ => 20 - (intOf i).toNat)
      case atStart => exact ⟨0, ByteArray.empty, by omega, rfl, rfl, by simp, hnx⟩
      case round =>
        clear hnx hsz
        rename_i sx _
        have hs0 : s.size ≤ 60 := by omega
        clear hs hk0
        obtain ⟨k, s, hk, rfl, rfl, hs, hnx⟩ := hrel
        have hsz := hnx.size
        obtain ⟨m, hm1, hm2, hm3, hmm⟩ : ∃ m : Nat, len0 ≤ m ∧ len1 ≤ m ∧ (m ≤ len0 ∨ m ≤ len1) ∧ (if len0 < len1 then (len1 : Int) else (len0 : Int)) = (m : Int) := ⟨max len0 len1, by omega, by omega, by omega, by split <;> omega⟩
        rcases (show (k < 20 ∧ k < len1) ∨ (k < 20 ∧ ¬ k < len1 ∧ k < len0) ∨ ¬ k < 20 ∨ (k < 20 ∧ ¬ k < len0 ∧ ¬ k < len1) from by omega) with ⟨h20, hl1⟩ | ⟨h20, hl1, hl0⟩ | hx | ⟨h20, hx, hy⟩
        · have hkm : k < m := by omega
          have hb1r : b1 < wr.heap.size := by have := hb1 (by omega); omega
          have e1 := ho1 (by omega)
          clear ho1
          subst e1
          have hz1 := hw1 k hl1
          have hcell1 : wr.cell? ⟨b1, off1 + k, none⟩ = some (.int .u8 (z1.getD k 0)) := (hnx.cell (by exact hb1 (by omega))).trans (hc1 k hl1)
          obtain ⟨y, hzz⟩ : ∃ y, y = z1.getD k 0 := ⟨_, rfl⟩
          rw [← hzz] at hz1 hcell1
          clear hzz
          rcases (show y % 4 = 0 ∨ (y % 4 ≠ 0 ∧ y % 8 = 1) ∨ (y % 4 ≠ 0 ∧ y % 8 ≠ 1 ∧ k < len0) ∨ (y % 4 ≠ 0 ∧ y % 8 ≠ 1 ∧ ¬ k < len0) from by omega) with h4 | ⟨h4, h8⟩ | ⟨h4, h8, hl0⟩ | ⟨h4, h8, hl0⟩
          · have hq0 : y.tdiv 4 = y / 4 := Int.tdiv_eq_ediv_of_nonneg hz1.1
            obtain ⟨q, hq⟩ : ∃ q : Nat, y / 4 = (q : Int) := ⟨(y / 4).toNat, by omega⟩
            have hqw : IntKind.u8.wrap (q : Int) = (q : Int) := IntWalk.u8_in _ (by omega)
            obtain ⟨j, hj6, hj⟩ := mod6 (q : Int) (by omega)
            have hj7 : (j : Int) < 6 := by omega
            have hj8 : (0 : Int) ≤ (j : Int) := by omega
            have hlet := letBlock_cell wr j hj6
            have hes := letter_size j
            have hadd : ¬ (s.size + (Utf8.encode (letter j)).size > 9223372036854775807) := by omega
            go_wp2_with fail
            go_region_with (go_at_call 33; refine (letters_any _).mono ?_; rintro e w' ⟨rfl, rfl⟩)
            all_goals
              go_wp2
              go_roundw
              case rel => exact ⟨k + 1, s ++ Utf8.encode (letter j), by omega, by go_num, rfl, by rw [ByteArray.size_append]; omega, by first | exact (hnx.alloc hsz _).drew | exact hnx.drew.alloc hsz _⟩
              case measure => simp [intOf]; omega
          · go_wp2
            all_goals
              go_roundw
              case rel => exact ⟨k + 1, s, by omega, by go_num, rfl, by omega, hnx⟩
              case measure => simp [intOf]; omega
          · have hb0r : b0 < wr.heap.size := by have := hb0 (by omega); omega
            have e0 := ho0 (by omega)
            clear ho0
            subst e0
            have hz := hw0 k hl0
            have hcell : wr.cell? ⟨b0, off0 + k, none⟩ = some (.int .u8 (z0.getD k 0)) := (hnx.cell (by exact hb0 (by omega))).trans (hc0 k hl0)
            obtain ⟨z, hzz⟩ : ∃ z, z = z0.getD k 0 := ⟨_, rfl⟩
            rw [← hzz] at hz hcell
            clear hzz
            obtain ⟨j, hj6, hj⟩ := mod6 z hz.1
            have hj7 : (j : Int) < 6 := by omega
            have hj8 : (0 : Int) ≤ (j : Int) := by omega
            have hlet := letBlock_cell wr j hj6
            have hes := letter_size j
            have hadd : ¬ (s.size + (Utf8.encode (letter j)).size > 9223372036854775807) := by omega
            go_wp2_with fail
            go_region_with (go_at_call 33; refine (letters_any _).mono ?_; rintro e w' ⟨rfl, rfl⟩)
            all_goals
              go_wp2
              go_roundw
              case rel => exact ⟨k + 1, s ++ Utf8.encode (letter j), by omega, by go_num, rfl, by rw [ByteArray.size_append]; omega, by first | exact (hnx.alloc hsz _).drew | exact hnx.drew.alloc hsz _⟩
              case measure => simp [intOf]; omega
          · go_wp2
            all_goals
              go_roundw
              case rel => exact ⟨k + 1, s, by omega, by go_num, rfl, by omega, hnx⟩
              case measure => simp [intOf]; omega
        · have hkm : k < m := by omega
          have hb0r : b0 < wr.heap.size := by have := hb0 (by omega); omega
          have e0 := ho0 (by omega)
          clear ho0
          subst e0
          have hz := hw0 k hl0
          have hcell : wr.cell? ⟨b0, off0 + k, none⟩ = some (.int .u8 (z0.getD k 0)) := (hnx.cell (by exact hb0 (by omega))).trans (hc0 k hl0)
          obtain ⟨z, hzz⟩ : ∃ z, z = z0.getD k 0 := ⟨_, rfl⟩
          rw [← hzz] at hz hcell
          clear hzz
          obtain ⟨j, hj6, hj⟩ := mod6 z hz.1
          have hj7 : (j : Int) < 6 := by omega
          have hj8 : (0 : Int) ≤ (j : Int) := by omega
          have hlet := letBlock_cell wr j hj6
          have hes := letter_size j
          have hadd : ¬ (s.size + (Utf8.encode (letter j)).size > 9223372036854775807) := by omega
          go_wp2_with fail
          go_region_with (go_at_call 33; refine (letters_any _).mono ?_; rintro e w' ⟨rfl, rfl⟩)
          all_goals
            go_wp2
            go_roundw
            case rel => exact ⟨k + 1, s ++ Utf8.encode (letter j), by omega, by go_num, rfl, by rw [ByteArray.size_append]; omega, by first | exact (hnx.alloc hsz _).drew | exact hnx.drew.alloc hsz _⟩
            case measure => simp [intOf]; omega
        · go_wp2
          go_ret2
          exact ⟨_, _, rfl, by omega, by omega, hnx⟩
        · have hkm : m ≤ k := by omega
          go_wp2
          all_goals
            go_ret2
            exact ⟨_, _, rfl, by omega, by omega, hnx⟩

end Go.Proofs.Ytmphoafjeojodaa
