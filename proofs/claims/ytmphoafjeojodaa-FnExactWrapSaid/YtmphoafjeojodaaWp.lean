/- spec.Wrap -/
import Derived.Test.YtmphoafjeojodaaTz
namespace Go.Proofs.Ytmphoafjeojodaa
open Go.RowKit

/-- what is laid so far, and how long the line is -/
def wrapTo (lim : Nat) : List (List Int) → List Int × Nat
  | [] => ([], 0)
  | w :: ws => (ws).foldl (fun s v => if s.2 + 1 + v.length ≤ lim then (s.1 ++ 32 :: v, s.2 + 1 + v.length) else (s.1 ++ 10 :: v, v.length)) (w, w.length)
theorem wrapTo_tail (lim : Nat) (ws : List (List Int)) : ∀ s : List Int × Nat, (ws.foldl (fun s v => if s.2 + 1 + v.length ≤ lim then (s.1 ++ 32 :: v, s.2 + 1 + v.length) else (s.1 ++ 10 :: v, v.length)) s).1 = s.1 ++ specTail lim s.2 ws := by
  induction ws with
  | nil => intro s; simp [specTail]
  | cons v ws ih =>
    intro s
    rw [List.foldl_cons, ih, specTail]
    by_cases h : s.2 + 1 + v.length ≤ lim
    · rw [if_pos h, if_pos h]; simp
    · rw [if_neg h, if_neg h]; simp
theorem wrapTo_all (lim : Nat) (ws : List (List Int)) : (wrapTo lim ws).1 = specL lim ws := by
  cases ws with
  | nil => rfl
  | cons w ws => rw [wrapTo, wrapTo_tail, specL]
theorem wrapTo_snoc (lim : Nat) (ws : List (List Int)) (v : List Int) (h : ws ≠ []) : wrapTo lim (ws ++ [v]) =
    if (wrapTo lim ws).2 + 1 + v.length ≤ lim then ((wrapTo lim ws).1 ++ 32 :: v, (wrapTo lim ws).2 + 1 + v.length) else ((wrapTo lim ws).1 ++ 10 :: v, v.length) := by
  cases ws with
  | nil => exact absurd rfl h
  | cons w ws => rw [List.cons_append, wrapTo, List.foldl_append]; rfl

/-- how far the words are wrapped -/
structure Wto (lim : Nat) (ws : List (List Int)) (k : Nat) (out : List Int) (long : Nat) : Prop where
  le : k ≤ ws.length
  eq : wrapTo lim (ws.take k) = (out, long)
  al : AllA' out
  bo : out.length ≤ 9 * k
  bl : long ≤ 9 * k
theorem Wto.start (lim : Nat) (ws : List (List Int)) : Wto lim ws 0 [] 0 := ⟨Nat.zero_le _, by simp [wrapTo], alla_nil, by simp, by simp⟩
theorem take_one_more {ws : List (List Int)} {k : Nat} (h : k < ws.length) : ws.take (k + 1) = ws.take k ++ [ws[k]] := by rw [List.take_add_one, List.getElem?_eq_getElem h]; rfl
theorem w7_alla {l : List Int} (h : W7 l) : AllA' l := fun r hr => (h.2.2 r hr).1
theorem Wto.first {lim : Nat} {ws : List (List Int)} (h : 0 < ws.length) (hw : W7 ws[0]) {out : List Int} {long : Nat} (h0 : Wto lim ws 0 out long) : out = [] ∧ Wto lim ws 1 (out ++ ws[0]) ws[0].length := by
  have e := h0.eq
  simp [wrapTo] at e
  obtain ⟨e1, _⟩ := e
  subst e1
  have := hw.2.1
  refine ⟨rfl, by omega, ?_, w7_alla hw, by simp; omega, by omega⟩
  rw [take_one_more h]
  simp [wrapTo]
theorem Wto.fit {lim : Nat} {ws : List (List Int)} {k : Nat} {out : List Int} {long : Nat} (h : Wto lim ws k out long) (hk0 : 0 < k) (hk : k < ws.length) (hw : W7 ws[k]) (hf : long + 1 + ws[k].length ≤ lim) :
    Wto lim ws (k + 1) (out ++ [32] ++ ws[k]) (long + (1 + ws[k].length)) := by
  have := hw.2.1
  have b1 := h.bo
  have b2 := h.bl
  refine ⟨by omega, ?_, alla_app (alla_app h.al (alla_one alpha32)) (w7_alla hw), by simp; omega, by omega⟩
  rw [take_one_more hk, wrapTo_snoc _ _ _ (by intro e; have := congrArg List.length e; rw [List.length_take, List.length_nil] at this; omega), h.eq]
  rw [if_pos hf]
  simp [Nat.add_assoc]
theorem Wto.new {lim : Nat} {ws : List (List Int)} {k : Nat} {out : List Int} {long : Nat} (h : Wto lim ws k out long) (hk0 : 0 < k) (hk : k < ws.length) (hw : W7 ws[k]) (hf : ¬ long + 1 + ws[k].length ≤ lim) :
    Wto lim ws (k + 1) (out ++ [10] ++ ws[k]) ws[k].length := by
  have := hw.2.1
  have b1 := h.bo
  have b2 := h.bl
  refine ⟨by omega, ?_, alla_app (alla_app h.al (alla_one alpha10)) (w7_alla hw), by simp; omega, by omega⟩
  rw [take_one_more hk, wrapTo_snoc _ _ _ (by intro e; have := congrArg List.length e; rw [List.length_take, List.length_nil] at this; omega), h.eq]
  rw [if_neg hf]
  simp
theorem Wto.done {lim : Nat} {ws : List (List Int)} {out : List Int} {long k : Nat} (h : Wto lim ws k out long) (hk : ¬ k < ws.length) : out = specL lim ws := by
  have e := h.eq
  rw [List.take_of_length_le (by omega)] at e
  rw [← wrapTo_all, e]

theorem enc_bl : enc [32] = ⟨#[32]⟩ := by decide
theorem enc_nl2 : enc [10] = ⟨#[10]⟩ := by decide
theorem count_word {l : List Int} (h : W7 l) (w : World) : Calls Try.prog 41 #[.string (enc l)] w fun e w' => e = .returned (.int .i64 l.length) ∧ Below w.heap.size w w' := by
  have h1 := rl_enc l (w7_alla h)
  have h2 := (enc_size_le l (w7_alla h)).2
  have h3 := h.2.1
  refine (count_any (enc l) w (by omega)).mono fun e w' ⟨he, hb⟩ => ⟨?_, hb⟩
  rw [he, h1]

theorem spec_wrap_nil (lim : Nat) (w : World) : Calls Try.prog 32 #[.slice none 0 0, .int .i64 lim] w fun e w' => e = .returned (.string (enc (specL lim []))) ∧ Below w.heap.size w w' := by
  go_enter Try.func32, Try.ntmps32
  go_wp2
  refine wp_loop_rounds 1 ?_
  rw [rounds_succ]
  go_wp2
  go_ret
  exact ⟨rfl, Below.refl _ _⟩

set_option maxRecDepth 1000000 in
set_option maxHeartbeats 4000000 in
theorem spec_wrap_some {w : World} {b cp lim : Nat} {ws : List (List Int)} (hc : ∀ j (hj : j < ws.length), w.cell? ⟨b, j, none⟩ = some (.string (enc ws[j]))) (hbw : b < w.heap.size) (h : ∀ l ∈ ws, W7 l) (hk : ws.length ≤ 40) (hlim : lim ≤ 1000000) :
    Calls Try.prog 32 #[.slice (some ⟨b, 0, none⟩) ws.length cp, .int .i64 lim] w fun e w' => e = .returned (.string (enc (specL lim ws))) ∧ Below w.heap.size w w' := by
  obtain ⟨t, HT⟩ : ∃ t, Hid (t = enc (specL lim ws)) := ⟨_, rfl⟩
  rw [← HT.out]
  obtain ⟨n, hn⟩ : ∃ n, n = ws.length := ⟨_, rfl⟩
  have HC : Hid (∀ j (hj : j < ws.length), w.cell? ⟨b, j, none⟩ = some (.string (enc ws[j]))) := hc
  have HW : Hid (∀ l ∈ ws, W7 l) := h
  have HN : Hid (n = ws.length) := hn
  rw [← hn] at hk ⊢
  clear hc h hn
  go_enter Try.func32, Try.ntmps32
  go_wp2
  go_loopw [5, 6, 12] (fun s5 s6 s12 wr => ∃ (i : Nat) (out : List Int) (long : Nat), i ≤ n ∧ s5 = .string (enc out) ∧ s6 = .int .i64 long ∧ s12 = .int .i64 i ∧ Wto lim ws i out long ∧ Below w.heap.size w wr) (fun _ _ s _ => n - (intOf s).toNat)
  case atStart => exact ⟨0, [], 0, by omega, rfl, rfl, rfl, Wto.start _ _, Below.refl _ _⟩
  case round =>
    obtain ⟨i, out, long, hi, rfl, rfl, rfl, HO, hnx⟩ := hrel
    have bl := HO.bl
    have bo := HO.bo
    have so := (enc_size_le _ HO.al).2
    by_cases hlt : i < n
    · have hlt' : i < ws.length := by have := HN.out; omega
      have hw7 : W7 ws[i] := HW.out _ (List.getElem_mem hlt')
      have hcell : wr.cell? ⟨b, i, none⟩ = some (.string (enc ws[i])) := (hnx.cell (p := ⟨b, i, none⟩) hbw).trans (HC.out i hlt')
      have hf0 : i = 0 → out = [] ∧ Wto lim ws 1 (out ++ ws[i]) ws[i].length := fun e => by subst e; exact Wto.first hlt' hw7 HO
      have hf1 : 0 < i → long + 1 + ws[i].length ≤ lim → Wto lim ws (i + 1) (out ++ [32] ++ ws[i]) (long + (1 + ws[i].length)) := fun e1 e2 => HO.fit e1 hlt' hw7 e2
      have hf2 : 0 < i → ¬ long + 1 + ws[i].length ≤ lim → Wto lim ws (i + 1) (out ++ [10] ++ ws[i]) ws[i].length := fun e1 e2 => HO.new e1 hlt' hw7 e2
      obtain ⟨l, hl⟩ : ∃ l, ws[i] = l := ⟨_, rfl⟩
      rw [hl] at hw7 hcell hf0 hf1 hf2
      clear hl HO
      have F0 : Hid (i = 0 → out = [] ∧ Wto lim ws 1 (out ++ l) l.length) := hf0
      have F1 : Hid (0 < i → long + 1 + l.length ≤ lim → Wto lim ws (i + 1) (out ++ [32] ++ l) (long + (1 + l.length))) := hf1
      have F2 : Hid (0 < i → ¬ long + 1 + l.length ≤ lim → Wto lim ws (i + 1) (out ++ [10] ++ l) l.length) := hf2
      clear hf0 hf1 hf2
      have sl := (enc_size_le _ (w7_alla hw7)).2
      have ll := hw7.2.1
      have CW : Hid (W7 l) := hw7
      clear hw7
      obtain ⟨m, hm⟩ : ∃ m, m = l.length := ⟨_, rfl⟩
      have HM : Hid (m = l.length) := hm
      have hcount : ∀ W, Calls Try.prog 41 #[.string (enc l)] W fun e w' => e = .returned (.int .i64 m) ∧ Below W.heap.size W w' := fun W => by rw [hm]; exact count_word CW.out W
      rw [← hm] at sl ll
      clear hm
      by_cases h0 : i = 0
      · subst h0
        go_wp2_with fail
        refine (hcount _).mono ?_
        rintro e w1 ⟨rfl, hb1⟩
        go_wp2
        go_roundw
        case rel => exact ⟨1, out ++ l, m, by omega, by rw [enc_append], rfl, rfl, by rw [HM.out]; exact (F0.out (by simp)).2, hnx.trans (hb1.mono hnx.size)⟩
        case measure => simp [intOf]; omega
      · have hi0 : ((i : Int) == 0) = false := by simp; omega
        by_cases hfit : long + 1 + m ≤ lim
        · go_wp2_with fail
          refine (hcount _).mono ?_
          rintro e w1 ⟨rfl, hb1⟩
          go_wp2
          go_roundw
          case rel => exact ⟨i + 1, out ++ [32] ++ l, long + (1 + m), by omega, by rw [enc_append, enc_append, enc_bl], by go_num, by go_num, by rw [HM.out]; exact F1.out (by omega) (by rw [← HM.out]; exact hfit), hnx.trans (hb1.mono hnx.size)⟩
          case measure => simp [intOf]; omega
        · go_wp2_with fail
          refine (hcount _).mono ?_
          rintro e w1 ⟨rfl, hb1⟩
          go_wp2
          go_roundw
          case rel => exact ⟨i + 1, out ++ [10] ++ l, m, by omega, by rw [enc_append, enc_append, enc_nl2], rfl, by go_num, by rw [HM.out]; exact F2.out (by omega) (by rw [← HM.out]; exact hfit), hnx.trans (hb1.mono hnx.size)⟩
          case measure => simp [intOf]; omega
    · have hd := HO.done (by have := HN.out; omega)
      have hd2 : enc out = t := by rw [HT.out, hd]
      clear hd HO
      rw [hd2]
      clear hd2
      go_wp2
      go_ret
      exact ⟨rfl, hnx⟩

theorem spec_wrap_any {w : World} {B lim : Nat} {v : Value} {ws : List (List Int)} (hown : w.ownsRow B 9 1 v ws.length (strs ws)) (h : ∀ l ∈ ws, W7 l) (hk : ws.length ≤ 40) (hlim : lim ≤ 1000000) :
    Calls Try.prog 32 #[v, .int .i64 lim] w fun e w' => e = .returned (.string (enc (specL lim ws))) ∧ Below w.heap.size w w' := by
  rcases hown.2 with ⟨rfl, h3⟩ | ⟨k, cap, cur, rfl, _, h5, _⟩
  · have : ws = [] := List.length_eq_zero_iff.1 h3
    subst this
    exact spec_wrap_nil lim w
  · refine spec_wrap_some (fun j hj => ?_) (lt_of_block h5) h hk hlim
    rw [hown.cellAt j (by simpa using hj)]
    simp [strs, hj]
end Go.Proofs.Ytmphoafjeojodaa
