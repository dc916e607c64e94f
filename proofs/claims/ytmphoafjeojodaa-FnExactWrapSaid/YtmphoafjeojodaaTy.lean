/- spec.Text, whatever bytes come in -/
import Derived.Test.YtmphoafjeojodaaTx
namespace Go.Proofs.Ytmphoafjeojodaa
open Go.RowKit

def WordsOf (a : Value) (w : World) : Prop := Calls Try.prog 31 #[a] w (Told8 w)
/-- a text of words -/
def Spoken (s : ByteArray) : Prop := ∃ ws, s = enc (joinL ws) ∧ ws.length ≤ 40 ∧ ∀ l ∈ ws, W7 l

theorem text_any {a : Value} {w : World} (ha : WordsOf a w) :
    Calls Try.prog 28 #[a] w fun e w' => ∃ s, e = .returned (.string s) ∧ Spoken s ∧ Below w.heap.size w w' := by
  go_enter Try.func28, Try.ntmps28
  go_wp2_with fail
  refine Calls.mono ha ?_
  rintro e w1 ⟨v, ws, rfl, hk, hw, hown, hb1⟩
  have HW : Hid (∀ l ∈ ws, W7 l) := hw
  clear hw
  go_wp2_with fail
  refine (join_any hown HW.out hk).mono ?_
  rintro e w2 ⟨rfl, hb2⟩
  obtain ⟨t, HT⟩ : ∃ t, Hid (t = enc (joinL ws)) := ⟨_, rfl⟩
  rw [← HT.out]
  go_wp2
  go_ret
  exact ⟨t, rfl, ⟨ws, HT.out, hk, HW.out⟩, hb1.trans (hb2.mono hb1.size)⟩
end Go.Proofs.Ytmphoafjeojodaa
