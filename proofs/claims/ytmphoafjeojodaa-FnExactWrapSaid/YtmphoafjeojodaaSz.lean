/- spec.Words, told exactly -/
import Derived.Test.YtmphoafjeojodaaWo
namespace Go.Proofs.Ytmphoafjeojodaa
open Go.RowKit

/-- the letters that lie in j bytes from a place on -/
def inkAt (z : List Int) (pos j : Nat) : List Int := (List.range j).map fun i => letter ((z.getD (pos + i) 0 % 6).toNat)
/-- a word of so many bytes: the one of a single byte is "a" -/
def wordAt (z : List Int) (pos n : Nat) : List Int := if inkAt z (pos + 1) (n - 1) = [] then [97] else inkAt z (pos + 1) (n - 1)
/-- how many bytes the word at a place takes -/
def stepAt (z : List Int) (len pos : Nat) : Nat := min (2 + (z.getD pos 0 % 7).toNat) (len - pos)
/-- the words that lie in bytes from a place on, at most k of them -/
def wordsL (z : List Int) (len : Nat) : Nat → Nat → List (List Int)
  | 0, _ => []
  | k + 1, pos => if pos < len then wordAt z pos (stepAt z len pos) :: wordsL z len k (pos + stepAt z len pos) else []
theorem inkAt_zero (z : List Int) (pos : Nat) : inkAt z pos 0 = [] := rfl
theorem inkAt_succ (z : List Int) (pos j g : Nat) (hg : (z.getD (pos + j) 0).tmod 6 = (g : Int)) (h0 : 0 ≤ z.getD (pos + j) 0) : inkAt z pos (j + 1) = inkAt z pos j ++ [letter g] := by
  unfold inkAt
  rw [List.range_succ, List.map_append]
  have : (z.getD (pos + j) 0 % 6).toNat = g := by rw [Int.tmod_eq_emod_of_nonneg h0] at hg; omega
  rw [List.map_singleton, this]
theorem wordsL_stop (z : List Int) (len k pos : Nat) (h : ¬ pos < len) : wordsL z len k pos = [] := by
  cases k with
  | zero => rfl
  | succ k => rw [wordsL, if_neg h]
/-- how far the words are -/
def Sofar (z : List Int) (len pos : Nat) (ws : List (List Int)) : Prop := ws ++ wordsL z len (40 - ws.length) pos = wordsL z len 40 0
theorem Sofar.zero (z : List Int) (len : Nat) : Sofar z len 0 [] := rfl
theorem Sofar.snoc {z : List Int} {len pos n : Nat} {ws : List (List Int)} {l : List Int} (h : Sofar z len pos ws) (hp : pos < len) (hk : ws.length < 40) (hn : n = stepAt z len pos) (hl : l = wordAt z pos n) :
    Sofar z len (pos + n) (ws ++ [l]) := by
  unfold Sofar at h ⊢
  rw [← h, show 40 - ws.length = (40 - (ws ++ [l]).length) + 1 from by simp; omega, wordsL, if_pos hp, ← hn, ← hl]
  simp
theorem Sofar.done {z : List Int} {len pos : Nat} {ws : List (List Int)} (h : Sofar z len pos ws) (hp : ¬ (pos < len ∧ ws.length < 40)) : ws = wordsL z len 40 0 := by
  unfold Sofar at h
  rw [← h]
  by_cases h1 : pos < len
  · rw [show 40 - ws.length = 0 from by omega]; simp [wordsL]
  · rw [wordsL_stop _ _ _ _ h1]; simp

/-- what spec.Words hands back: just these words -/
def Told9 (ws : List (List Int)) (w : World) (e : Ending) (w' : World) : Prop := ∃ v, e = .returned v ∧ ws.length ≤ 40 ∧ (∀ l ∈ ws, W7 l) ∧ w'.ownsRow w.heap.size 9 1 v ws.length (strs ws) ∧ Below w.heap.size w w'
theorem Told9.mk' {z : List Int} {len pos : Nat} {ws : List (List Int)} {v : Value} {w w' : World} (h : Sofar z len pos ws) (hp : ¬ (pos < len ∧ ws.length < 40)) (h1 : ws.length ≤ 40) (h2 : ∀ l ∈ ws, W7 l) (h3 : w'.ownsRow w.heap.size 9 1 v ws.length (strs ws)) (h4 : Below w.heap.size w w') :
    Told9 (wordsL z len 40 0) w (.returned v) w' := by
  rw [← h.done hp]
  exact ⟨v, rfl, h1, h2, h3, h4⟩

set_option maxRecDepth 1000000 in
set_option maxHeartbeats 4000000 in
theorem words_exact (b off len cap : Nat) (z : List Int) (w : World) (hb : 0 < len → b < w.heap.size) (h0 : len ≤ 2147483647) (hlc : len ≤ cap) (hcm : cap ≤ maxLen)
   (hc0 : ∀ i, i < len → w.cell? ⟨b, off + i, none⟩ = some (.int .u8 (z.getD i 0))) (hw0 : ∀ i, i < len → 0 ≤ z.getD i 0 ∧ z.getD i 0 ≤ 255) :
    Calls Try.prog 31 #[.slice (some ⟨b, off, none⟩) len cap] w (Told9 (wordsL z len 40 0) w) := by
  obtain ⟨i0, hi, hz0, hz1, hz2⟩ := info_parts info9
  unfold maxLen at hcm
  go_enter Try.func31, Try.ntmps31
  go_wp2
  go_loopw [0, 3] (fun s v wr => ∃ (pos : Nat) (ad : Addr) (ws : List (List Int)), pos ≤ len ∧ ws.length ≤ 40 ∧ s = .slice (some ad) (len - pos) (cap - pos) ∧ (pos < len → ad = ⟨b, off + pos, none⟩) ∧ wr.ownsRow w.heap.size 9 1 v ws.length (strs ws) ∧ Hid ((∀ l ∈ ws, W7 l) ∧ Sofar z len pos ws) ∧ Below w.heap.size w wr) (fun s _ _ => match s with | .slice _ n _ => n | _ => 0)
  case atStart => exact ⟨0, _, [], by omega, by simp, rfl, (fun _ => rfl), World.ownsRow_nil _ _ _ _, ⟨(fun l h => by cases h), Sofar.zero z len⟩, Below.refl _ _⟩
  case round =>
    obtain ⟨pos, ad, ws, hp, hk, rfl, had, hown, HW, hnx⟩ := hrel
    have hsz := hnx.size
    obtain ⟨ao, cp, rfl⟩ := own_shape9 hown
    by_cases hr : pos < len ∧ ws.length < 40
    · obtain ⟨hpl, hkl⟩ := hr
      have e0 := had hpl
      clear had
      subst e0
      have hz := hw0 pos hpl
      have hcell : wr.cell? ⟨b, off + pos, none⟩ = some (.int .u8 (z.getD pos 0)) := (hnx.cell (by exact hb (by omega))).trans (hc0 pos hpl)
      obtain ⟨y, hzz⟩ : ∃ y : Nat, z.getD pos 0 = (y : Int) := ⟨(z.getD pos 0).toNat, by omega⟩
      rw [hzz] at hz hcell
      have hzz' := hzz
      clear hzz
      have hq : (y : Int).tmod 7 = ((y % 7 : Nat) : Int) := by rw [Int.tmod_eq_emod_of_nonneg (by omega)]; omega
      obtain ⟨m, hm⟩ : ∃ m : Nat, m = y % 7 := ⟨_, rfl⟩
      have hm7 : m < 7 := by omega
      have HS : Hid (stepAt z len pos = min (2 + m) (len - pos)) := by
        show stepAt z len pos = _
        unfold stepAt
        rw [hzz', hm]
        omega
      rw [← hm] at hq
      clear hm
      obtain ⟨n, hn, hn1, hn8, hnl, HN⟩ : ∃ n : Nat, min (2 + (m : Int)) ((len - pos : Nat) : Int) = (n : Int) ∧ 1 ≤ n ∧ n ≤ 8 ∧ n ≤ len - pos ∧ Hid (n = stepAt z len pos) := ⟨min (2 + m) (len - pos), by omega, by omega, by omega, by omega, HS.out.symm⟩
      clear HS hzz'
      obtain ⟨kk, hk1, hk2⟩ : ∃ kk, n - 1 = kk ∧ n = kk + 1 := ⟨_, rfl, by omega⟩
      go_wp2_with fail
      all_goals
        go_loopw [5, 29] (fun x i wl => ∃ (j : Nat) (rs : List Int), j ≤ kk ∧ i = .int .i64 j ∧ x = .string (enc rs) ∧ Few j rs ∧ Hid (Ink rs ∧ rs = inkAt z (pos + 1) j) ∧ Below w.heap.size w wl ∧ wl.ownsRow w.heap.size 9 1 (.slice ao ws.length cp) ws.length (strs ws)) (fun _ i _ => 10 - (intOf i).toNat)
        case atStart => exact ⟨0, [], by omega, rfl, rfl, Few.nil, ⟨Ink.nil, rfl⟩, hnx, hown⟩
        case round =>
          clear hcell hown hnx hsz
          obtain ⟨j, rs, hj, rfl, rfl, hs, HI, hnx, hown⟩ := hrel
          have hss := hs.size
          have hsz := hnx.size
          by_cases hjn : j < kk
          · have hz2' := hw0 (pos + 1 + j) (by omega)
            have hcell : wr.cell? ⟨b, off + pos + 1 + j, none⟩ = some (.int .u8 (z.getD (pos + 1 + j) 0)) := by
              have := (hnx.cell (p := ⟨b, off + (pos + 1 + j), none⟩) (by exact hb (by omega))).trans (hc0 (pos + 1 + j) (by omega))
              rw [← this]; congr 2; omega
            obtain ⟨q, hzz⟩ : ∃ q, q = z.getD (pos + 1 + j) 0 := ⟨_, rfl⟩
            rw [← hzz] at hz2' hcell
            have HZ : Hid (q = z.getD (pos + 1 + j) 0) := hzz
            clear hzz
            obtain ⟨g, hg6, hg⟩ := mod6 q hz2'.1
            have HI2 : Hid (rs ++ [letter g] = inkAt z (pos + 1) (j + 1)) := by
              show _ = _
              rw [inkAt_succ z (pos + 1) j g (by rw [← HZ.out]; exact hg) (by rw [← HZ.out]; exact hz2'.1), ← HI.out.2]
            clear HZ
            have hg7 : (g : Int) < 6 := by omega
            have hg8 : (0 : Int) ≤ (g : Int) := by omega
            have hlet := letBlock_cell wr g hg6
            have hes := letter_size g
            have hadd : ¬ ((enc rs).size + (Utf8.encode (letter g)).size > 9223372036854775807) := by omega
            have hbr : b < wr.heap.size := by have := hb (by omega); omega
            first
              | (exfalso; omega)
              | (
                 go_wp2_with fail
                 refine (letters_any _).mono ?_
                 rintro e w' ⟨rfl, rfl⟩
                 go_wp2
                 go_roundw
                 case rel => exact ⟨j + 1, rs ++ [letter g], by omega, by go_num, by rw [enc_snoc], hs.snoc hg6, ⟨HI.out.1.snoc hg6, HI2.out⟩, hnx.alloc hsz _, hown.alloc _⟩
                 case measure => simp [intOf] <;> omega)
          · have HJ : Hid (rs = inkAt z (pos + 1) (n - 1)) := by
              show rs = _
              have := HI.out.2
              rwa [show j = n - 1 from by omega] at this
            by_cases hre : rs = []
            · have HWD : Hid ([97] = wordAt z pos n) := by
                show _ = _
                unfold wordAt
                rw [← HJ.out, if_pos hre]
              clear HJ
              subst hre
              have hem : (enc []).toList.isEmpty = true := by rw [ByteArray.toList_eq]; rfl
              go_wp2_with (at_builtin; refine wpList_append_own _ rfl _ _ 43 rfl w.heap.size 9 i0 (.string ⟨#[]⟩) 1 16 Try.underlying43 hi hz0 hz1 hz2 rfl (by decide) _ _ _ rfl (hown.alloc _) ⟨wr.heap.size, 0, none⟩ 1 1 [.string ⟨#[97]⟩] rfl rfl (cell_one_new _ _ _) (by intro u hu; simp at hu; subst hu; rfl) (by unfold maxLen; omega) (by omega) (by simp; omega) ?_; intro v' w2 hown' hgrow' hnil')
              have hb2 : Below w.heap.size w w2 := (hnx.alloc hsz _).grown hgrow' (by simp; omega) (fun j hj => (hown.lt j hj).1)
              clear hown hnx
              all_goals
                go_wp2
                all_goals
                  go_roundw
                  case rel => exact ⟨pos + n, (if cap - pos = kk + 1 then ⟨b, off + pos, none⟩ else ⟨b, off + pos + (kk + 1), none⟩), ws ++ [[97]], by omega, by simp; omega, slice_eq (by first | (split <;> rfl) | (split <;> first | rfl | (exfalso; omega)) | ((repeat' split) <;> first | rfl | (exfalso; omega))) (by omega) (by omega), (fun h => by rw [if_neg (by omega), hk2, Nat.add_assoc]), by rw [strs_snoc, List.length_append]; exact hown', ⟨(fun l hl => (List.mem_append.1 hl).elim (fun h => HW.out.1 l h) (fun h => by simp at h; subst h; exact ⟨by simp, by simp, fun c hc => by simp at hc; subst hc; exact ⟨.inl rfl, by decide, by decide⟩⟩)), HW.out.2.snoc hpl hkl HN.out HWD.out⟩, hb2⟩
                  case measure => simp; omega
            · have HWD : Hid (rs = wordAt z pos n) := by
                show _ = _
                unfold wordAt
                rw [← HJ.out, if_neg hre]
              clear HJ
              have hem : (enc rs).toList.isEmpty = false := nonempty_enc hs.2 hre
              go_wp2_with (at_builtin; refine wpList_append_own _ rfl _ _ 43 rfl w.heap.size 9 i0 (.string ⟨#[]⟩) 1 16 Try.underlying43 hi hz0 hz1 hz2 rfl (by decide) _ _ _ rfl (hown.alloc _) ⟨wr.heap.size, 0, none⟩ 1 1 [.string (enc rs)] rfl rfl (cell_one_new _ _ _) (by intro u hu; simp at hu; subst hu; rfl) (by unfold maxLen; omega) (by omega) (by simp; omega) ?_; intro v' w2 hown' hgrow' hnil')
              have hb2 : Below w.heap.size w w2 := (hnx.alloc hsz _).grown hgrow' (by simp; omega) (fun j hj => (hown.lt j hj).1)
              clear hown hnx
              all_goals
                go_wp2
                all_goals
                  go_roundw
                  case rel => exact ⟨pos + n, (if cap - pos = kk + 1 then ⟨b, off + pos, none⟩ else ⟨b, off + pos + (kk + 1), none⟩), ws ++ [rs], by omega, by simp; omega, slice_eq (by first | (split <;> rfl) | (split <;> first | rfl | (exfalso; omega)) | ((repeat' split) <;> first | rfl | (exfalso; omega))) (by omega) (by omega), (fun h => by rw [if_neg (by omega), hk2, Nat.add_assoc]), by rw [strs_snoc, List.length_append]; exact hown', ⟨(fun l hl => (List.mem_append.1 hl).elim (fun h => HW.out.1 l h) (fun h => by simp at h; subst h; exact ⟨hre, by have := hs.1; omega, HI.out.1⟩)), HW.out.2.snoc hpl hkl HN.out HWD.out⟩, hb2⟩
                  case measure => simp; omega
    · rcases (show ¬ pos < len ∨ (pos < len ∧ ¬ ws.length < 40) from by omega) with h1 | ⟨h1, h2⟩
      · go_wp2
        go_ret
        exact Told9.mk' HW.out.2 (by omega) hk HW.out.1 hown hnx
      · have e0 := had h1
        subst e0
        go_wp2
        go_ret
        exact Told9.mk' HW.out.2 (by omega) hk HW.out.1 hown hnx
end Go.Proofs.Ytmphoafjeojodaa
