/- spec.Words at any slice of bytes -/
import Derived.Test.YtmphoafjeojodaaTy
import Derived.Test.YtmphoafjeojodaaF
namespace Go.Proofs.Ytmphoafjeojodaa
open Go.RowKit

theorem words_row {a : Option Addr} {len cap : Nat} {z : List Int} {w : World} (h : IsRow .u8 w a len cap z) (hl : len ≤ 2147483647) : WordsOf (.slice a len cap) w := by
  by_cases h0 : len = 0
  · subst h0
    exact words_nil a cap w
  · rcases h.open with ⟨q, _⟩ | ⟨b, off, rfl, h2, h3, h4, h5, h6, h7, h8⟩
    · omega
    · exact words_some b off len cap z w (fun _ => h6) hl (by first | exact h3 | exact h4 | exact h5 | omega) (by first | exact h4 | exact h5 | exact h3 | omega) h7 (fun i hi => bounds_u8 (h8 i hi))
/-- the same in a later world -/
theorem IsRow.later {a : Option Addr} {len cap : Nat} {z : List Int} {w w' : World} (h : IsRow .u8 w a len cap z) (hb : Below w.heap.size w w') : IsRow .u8 w' a len cap z := by
  rcases h with h | ⟨x, rfl, h1, h2, h3, h4, h5⟩
  · exact .inl h
  · refine .inr ⟨x, rfl, h1, h2, h3, fun i hi => ?_, h5⟩
    have := h4 i hi
    rw [hb.cell (p := x.add i) (block_lt_of_cell this)]
    exact this

end Go.Proofs.Ytmphoafjeojodaa
