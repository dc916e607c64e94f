/- utf8.RuneCountInString, spec.Longer, spec.Rest -/
import Derived.Test.YtmphoafjeojodaaDoorR
import Derived.Laws.RangeAny
import Derived.Laws.RangeString
namespace Go.Proofs.YtmphoafjeojodaaDoor
open Go.RowKit

theorem width_pos (s : ByteArray) (pos : Nat) (h : pos < s.size) : 1 ≤ (Utf8.decode s pos).2 := by
  by_cases ha : (s[pos]'h).toNat < 128
  · rw [decode_ascii s pos h ha]
    exact Nat.le_refl _
  · exact (decode_high s pos h (by omega)).2

theorem runesFrom_end (s : ByteArray) (b pos : Nat) (acc : Array Value) (h : ¬ pos < s.size) : Conv.runesFrom s b pos acc = acc := by
  cases b with
  | zero => rfl
  | succ b => simp [Conv.runesFrom, h]
theorem runesFrom_step (s : ByteArray) (b pos : Nat) (acc : Array Value) (h : pos < s.size) : Conv.runesFrom s (b + 1) pos acc = Conv.runesFrom s b (pos + (Utf8.decode s pos).2) (acc.push (.int .i32 (Int.ofNat (Utf8.decode s pos).1))) := by
  simp [Conv.runesFrom, h]

theorem size_ge_runesFrom (s : ByteArray) : ∀ (b i : Nat) (acc : Array Value), acc.size ≤ (Conv.runesFrom s b i acc).size
  | 0, i, acc => by simp [Conv.runesFrom]
  | b + 1, i, acc => by
    unfold Conv.runesFrom
    split
    · have := size_ge_runesFrom s b (i + (Utf8.decode s i).2) (acc.push (.int .i32 (Int.ofNat (Utf8.decode s i).1)))
      simp at this ⊢
      omega
    · exact Nat.le_refl _
end Go.Proofs.YtmphoafjeojodaaDoor
