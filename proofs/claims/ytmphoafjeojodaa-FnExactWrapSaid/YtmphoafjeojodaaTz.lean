/- spec.Words and spec.Text, told exactly, at any slice of bytes -/
import Derived.Test.YtmphoafjeojodaaSz
namespace Go.Proofs.Ytmphoafjeojodaa
open Go.RowKit

theorem words_nil9 (z : List Int) (ao : Option Addr) (cap : Nat) (w : World) : Calls Try.prog 31 #[.slice ao 0 cap] w (Told9 (wordsL z 0 40 0) w) := by
  refine (words_none ao cap w).mono ?_
  rintro e w' ⟨rfl, rfl⟩
  rw [wordsL_stop _ _ _ _ (by omega)]
  exact ⟨_, rfl, by simp, (fun l h => by cases h), World.ownsRow_nil _ _ _ _, Below.refl _ _⟩

theorem words_row9 {a : Option Addr} {len cap : Nat} {z : List Int} {w : World} (h : IsRow .u8 w a len cap z) (hl : len ≤ 2147483647) : Calls Try.prog 31 #[.slice a len cap] w (Told9 (wordsL z len 40 0) w) := by
  by_cases h0 : len = 0
  · subst h0
    exact words_nil9 z a cap w
  · rcases h.open with ⟨q, _⟩ | ⟨b, off, rfl, h2, h3, h4, h5, h6, h7, h8⟩
    · omega
    · exact words_exact b off len cap z w (fun _ => h6) hl (by first | exact h3 | exact h4 | exact h5 | omega) (by first | exact h4 | exact h5 | exact h3 | omega) h7 (fun i hi => bounds_u8 (h8 i hi))

theorem text_exact {a : Value} {w : World} {ws : List (List Int)} (ha : Calls Try.prog 31 #[a] w (Told9 ws w)) :
    Calls Try.prog 28 #[a] w fun e w' => e = .returned (.string (enc (joinL ws))) ∧ Below w.heap.size w w' := by
  obtain ⟨t, HT⟩ : ∃ t, Hid (t = enc (joinL ws)) := ⟨_, rfl⟩
  rw [← HT.out]
  go_enter Try.func28, Try.ntmps28
  go_wp2_with fail
  refine Calls.mono ha ?_
  rintro e w1 ⟨v, rfl, hk, hw, hown, hb1⟩
  have HW : Hid (∀ l ∈ ws, W7 l) := hw
  clear hw
  go_wp2_with fail
  refine (join_any hown HW.out hk).mono ?_
  rintro e w2 ⟨rfl, hb2⟩
  rw [← HT.out]
  go_wp2
  go_ret
  exact ⟨rfl, hb1.trans (hb2.mono hb1.size)⟩

/-- a row of one's own stays where only new memory is made -/
theorem own_later {w w' : World} {B size n : Nat} {e : TypeId} {v : Value} {xs : List Value} (h : w.ownsRow B e size v n xs) (hb : Below w.heap.size w w') : w'.ownsRow B e size v n xs := by
  refine ⟨h.1, ?_⟩
  rcases h.2 with q | ⟨k, cap, cur, e1, e2, e3, r⟩
  · exact .inl q
  · exact .inr ⟨k, cap, cur, e1, e2, by rw [hb.block k (lt_of_block e3)]; exact e3, r⟩
end Go.Proofs.Ytmphoafjeojodaa
