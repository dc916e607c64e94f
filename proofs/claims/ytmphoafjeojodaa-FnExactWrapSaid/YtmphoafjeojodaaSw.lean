/- spec.Words -/
import Derived.Test.YtmphoafjeojodaaWm
import Derived.Test.YtmphoafjeojodaaB2
namespace Go.Proofs.Ytmphoafjeojodaa
open Go.RowKit

theorem info9 : (Try.prog.info? 9).map (fun i => (i.zero, i.size, i.bytes)) = some (some (.string ⟨#[]⟩), 1, 16) := by kernel_rfl

theorem own_shape9 {w : World} {B n : Nat} {v : Value} {xs : List Value} (h : w.ownsRow B 9 1 v n xs) : ∃ ao cap, v = .slice ao n cap := by
  rcases h.2 with ⟨rfl, h3⟩ | ⟨k, cap, cur, rfl, _⟩
  · exact ⟨none, 0, by rw [h3]⟩
  · exact ⟨_, cap, rfl⟩

theorem slice_eq {a a' : Option Addr} {n n' c c' : Nat} (h1 : a = a') (h2 : n = n') (h3 : c = c') : Value.slice a n c = .slice a' n' c' := by subst h1 h2 h3; rfl
theorem nonempty_enc {rs : List Int} (ha : AllA rs) (h : rs ≠ []) : (enc rs).toList.isEmpty = false := by
  have := enc_size_le rs ha
  have h3 : 0 < rs.length := List.length_pos_iff.2 h
  rw [ByteArray.toList_eq]
  have h4 : 0 < (enc rs).data.toList.length := by
    have : (enc rs).data.toList.length = (enc rs).size := by simp
    omega
  cases hl : (enc rs).data.toList with
  | nil => rw [hl] at h4; simp at h4
  | cons _ _ => rfl

/-- letters of a word -/
def Ink (l : List Int) : Prop := ∀ c ∈ l, Alpha c ∧ c ≠ 10 ∧ c ≠ 32
def W7 (l : List Int) : Prop := l ≠ [] ∧ l.length ≤ 8 ∧ Ink l
theorem letter_ink (j : Nat) (h : j < 6) : letter j ≠ 10 ∧ letter j ≠ 32 := by
  match j, h with
  | 0, _ => decide
  | 1, _ => decide
  | 2, _ => decide
  | 3, _ => decide
  | 4, _ => decide
  | 5, _ => decide
  | n + 6, h => omega
theorem Ink.nil : Ink [] := fun _ h => by cases h
theorem Ink.snoc {rs : List Int} (h : Ink rs) {j : Nat} (hj : j < 6) : Ink (rs ++ [letter j]) := fun x hx => by
  rcases List.mem_append.1 hx with hx | hx
  · exact h x hx
  · simp at hx; subst hx; exact ⟨letter_alpha j hj, letter_ink j hj⟩
def strs (ws : List (List Int)) : List Value := ws.map fun l => .string (enc l)
theorem strs_snoc (ws : List (List Int)) (l : List Int) : strs (ws ++ [l]) = strs ws ++ [.string (enc l)] := by simp [strs]
theorem strs_length (ws : List (List Int)) : (strs ws).length = ws.length := by simp [strs]

set_option maxRecDepth 1000000 in
set_option maxHeartbeats 4000000 in
theorem words_some (b off len cap : Nat) (z : List Int) (w : World) (hb : 0 < len → b < w.heap.size) (h0 : len ≤ 2147483647) (hlc : len ≤ cap) (hcm : cap ≤ maxLen)
   (hc0 : ∀ i, i < len → w.cell? ⟨b, off + i, none⟩ = some (.int .u8 (z.getD i 0))) (hw0 : ∀ i, i < len → 0 ≤ z.getD i 0 ∧ z.getD i 0 ≤ 255) :
    Calls Try.prog 31 #[.slice (some ⟨b, off, none⟩) len cap] w fun e w' => ∃ v ws, e = .returned v ∧ ws.length ≤ 40 ∧ (∀ l ∈ ws, W7 l) ∧ w'.ownsRow w.heap.size 9 1 v ws.length (strs ws) ∧ Below w.heap.size w w' := by
  obtain ⟨i0, hi, hz0, hz1, hz2⟩ := info_parts info9
  unfold maxLen at hcm
  go_enter Try.func31, Try.ntmps31
  go_wp2
  go_loopw [0, 3] (fun s v wr => ∃ (pos : Nat) (ad : Addr) (ws : List (List Int)), pos ≤ len ∧ ws.length ≤ 40 ∧ s = .slice (some ad) (len - pos) (cap - pos) ∧ (pos < len → ad = ⟨b, off + pos, none⟩) ∧ wr.ownsRow w.heap.size 9 1 v ws.length (strs ws) ∧ Hid (∀ l ∈ ws, W7 l) ∧ Below w.heap.size w wr) (fun s _ _ => match s with | .slice _ n _ => n | _ => 0)
  case atStart => exact ⟨0, _, [], by omega, by simp, rfl, (fun _ => rfl), World.ownsRow_nil _ _ _ _, (fun l h => by cases h), Below.refl _ _⟩
  case round =>
    obtain ⟨pos, ad, ws, hp, hk, rfl, had, hown, HW, hnx⟩ := hrel
    have hsz := hnx.size
    obtain ⟨ao, cp, rfl⟩ := own_shape9 hown
    by_cases hr : pos < len ∧ ws.length < 40
    · obtain ⟨hpl, hkl⟩ := hr
      have e0 := had hpl
      clear had
      subst e0
      have hz := hw0 pos hpl
      have hcell : wr.cell? ⟨b, off + pos, none⟩ = some (.int .u8 (z.getD pos 0)) := (hnx.cell (by exact hb (by omega))).trans (hc0 pos hpl)
      obtain ⟨y, hzz⟩ : ∃ y : Nat, z.getD pos 0 = (y : Int) := ⟨(z.getD pos 0).toNat, by omega⟩
      rw [hzz] at hz hcell
      clear hzz
      have hq : (y : Int).tmod 7 = ((y % 7 : Nat) : Int) := by rw [Int.tmod_eq_emod_of_nonneg (by omega)]; omega
      obtain ⟨m, hm⟩ : ∃ m : Nat, m = y % 7 := ⟨_, rfl⟩
      have hm7 : m < 7 := by omega
      rw [← hm] at hq
      clear hm
      obtain ⟨n, hn, hn1, hn8, hnl⟩ : ∃ n : Nat, min (2 + (m : Int)) ((len - pos : Nat) : Int) = (n : Int) ∧ 1 ≤ n ∧ n ≤ 8 ∧ n ≤ len - pos := ⟨min (2 + m) (len - pos), by omega, by omega, by omega, by omega⟩
      obtain ⟨kk, hk1, hk2⟩ : ∃ kk, n - 1 = kk ∧ n = kk + 1 := ⟨_, rfl, by omega⟩
      go_wp2_with fail
      all_goals
        go_loopw [5, 29] (fun x i wl => ∃ (j : Nat) (rs : List Int), j ≤ kk ∧ i = .int .i64 j ∧ x = .string (enc rs) ∧ Few j rs ∧ Hid (Ink rs) ∧ Below w.heap.size w wl ∧ wl.ownsRow w.heap.size 9 1 (.slice ao ws.length cp) ws.length (strs ws)) (fun _ i _ => 10 - (intOf i).toNat)
        case atStart => exact ⟨0, [], by omega, rfl, rfl, Few.nil, Ink.nil, hnx, hown⟩
        case round =>
          clear hcell hown hnx hsz
          obtain ⟨j, rs, hj, rfl, rfl, hs, HI, hnx, hown⟩ := hrel
          have hss := hs.size
          have hsz := hnx.size
          by_cases hjn : j < kk
          · have hz2' := hw0 (pos + 1 + j) (by omega)
            have hcell : wr.cell? ⟨b, off + pos + 1 + j, none⟩ = some (.int .u8 (z.getD (pos + 1 + j) 0)) := by
              have := (hnx.cell (p := ⟨b, off + (pos + 1 + j), none⟩) (by exact hb (by omega))).trans (hc0 (pos + 1 + j) (by omega))
              rw [← this]; congr 2; omega
            obtain ⟨q, hzz⟩ : ∃ q, q = z.getD (pos + 1 + j) 0 := ⟨_, rfl⟩
            rw [← hzz] at hz2' hcell
            clear hzz
            obtain ⟨g, hg6, hg⟩ := mod6 q hz2'.1
            have hg7 : (g : Int) < 6 := by omega
            have hg8 : (0 : Int) ≤ (g : Int) := by omega
            have hlet := letBlock_cell wr g hg6
            have hes := letter_size g
            have hadd : ¬ ((enc rs).size + (Utf8.encode (letter g)).size > 9223372036854775807) := by omega
            have hbr : b < wr.heap.size := by have := hb (by omega); omega
            first
              | (exfalso; omega)
              | (
                 go_wp2_with fail
                 refine (letters_any _).mono ?_
                 rintro e w' ⟨rfl, rfl⟩
                 go_wp2
                 go_roundw
                 case rel => exact ⟨j + 1, rs ++ [letter g], by omega, by go_num, by rw [enc_snoc], hs.snoc hg6, HI.out.snoc hg6, hnx.alloc hsz _, hown.alloc _⟩
                 case measure => simp [intOf] <;> omega)
          · by_cases hre : rs = []
            · subst hre
              have hem : (enc []).toList.isEmpty = true := by rw [ByteArray.toList_eq]; rfl
              go_wp2_with (at_builtin; refine wpList_append_own _ rfl _ _ 43 rfl w.heap.size 9 i0 (.string ⟨#[]⟩) 1 16 Try.underlying43 hi hz0 hz1 hz2 rfl (by decide) _ _ _ rfl (hown.alloc _) ⟨wr.heap.size, 0, none⟩ 1 1 [.string ⟨#[97]⟩] rfl rfl (cell_one_new _ _ _) (by intro u hu; simp at hu; subst hu; rfl) (by unfold maxLen; omega) (by omega) (by simp; omega) ?_; intro v' w2 hown' hgrow' hnil')
              have hb2 : Below w.heap.size w w2 := (hnx.alloc hsz _).grown hgrow' (by simp; omega) (fun j hj => (hown.lt j hj).1)
              clear hown hnx
              all_goals
                go_wp2
                all_goals
                  go_roundw
                  case rel => exact ⟨pos + n, (if cap - pos = kk + 1 then ⟨b, off + pos, none⟩ else ⟨b, off + pos + (kk + 1), none⟩), ws ++ [[97]], by omega, by simp; omega, slice_eq (by first | (split <;> rfl) | (split <;> first | rfl | (exfalso; omega)) | ((repeat' split) <;> first | rfl | (exfalso; omega))) (by omega) (by omega), (fun h => by rw [if_neg (by omega), hk2, Nat.add_assoc]), by rw [strs_snoc, List.length_append]; exact hown', (fun l hl => (List.mem_append.1 hl).elim (fun h => HW.out l h) (fun h => by simp at h; subst h; exact ⟨by simp, by simp, fun c hc => by simp at hc; subst hc; exact ⟨.inl rfl, by decide, by decide⟩⟩)), hb2⟩
                  case measure => simp; omega
            · have hem : (enc rs).toList.isEmpty = false := nonempty_enc hs.2 hre
              go_wp2_with (at_builtin; refine wpList_append_own _ rfl _ _ 43 rfl w.heap.size 9 i0 (.string ⟨#[]⟩) 1 16 Try.underlying43 hi hz0 hz1 hz2 rfl (by decide) _ _ _ rfl (hown.alloc _) ⟨wr.heap.size, 0, none⟩ 1 1 [.string (enc rs)] rfl rfl (cell_one_new _ _ _) (by intro u hu; simp at hu; subst hu; rfl) (by unfold maxLen; omega) (by omega) (by simp; omega) ?_; intro v' w2 hown' hgrow' hnil')
              have hb2 : Below w.heap.size w w2 := (hnx.alloc hsz _).grown hgrow' (by simp; omega) (fun j hj => (hown.lt j hj).1)
              clear hown hnx
              all_goals
                go_wp2
                all_goals
                  go_roundw
                  case rel => exact ⟨pos + n, (if cap - pos = kk + 1 then ⟨b, off + pos, none⟩ else ⟨b, off + pos + (kk + 1), none⟩), ws ++ [rs], by omega, by simp; omega, slice_eq (by first | (split <;> rfl) | (split <;> first | rfl | (exfalso; omega)) | ((repeat' split) <;> first | rfl | (exfalso; omega))) (by omega) (by omega), (fun h => by rw [if_neg (by omega), hk2, Nat.add_assoc]), by rw [strs_snoc, List.length_append]; exact hown', (fun l hl => (List.mem_append.1 hl).elim (fun h => HW.out l h) (fun h => by simp at h; subst h; exact ⟨hre, by have := hs.1; omega, HI.out⟩)), hb2⟩
                  case measure => simp; omega
    · rcases (show ¬ pos < len ∨ (pos < len ∧ ¬ ws.length < 40) from by omega) with h1 | ⟨h1, h2⟩
      · go_wp2
        go_ret
        first | exact ⟨_, ws, rfl, hk, HW.out, hown, hnx⟩ | exact ⟨_, rfl, ws, hk, HW.out, hown, hnx⟩
      · have e0 := had h1
        subst e0
        go_wp2
        go_ret
        first | exact ⟨_, ws, rfl, hk, HW.out, hown, hnx⟩ | exact ⟨_, rfl, ws, hk, HW.out, hown, hnx⟩
end Go.Proofs.Ytmphoafjeojodaa
