/- spec.Words of no bytes -/
import Derived.Test.YtmphoafjeojodaaSw
namespace Go.Proofs.Ytmphoafjeojodaa
open Go.RowKit

theorem words_none (ao : Option Addr) (cap : Nat) (w : World) :
    Calls Try.prog 31 #[.slice ao 0 cap] w fun e w' => e = .returned (.slice none 0 0) ∧ w = w' := by
  go_enter Try.func31, Try.ntmps31
  go_wp2
  refine wp_loop_rounds 1 ?_
  rw [rounds_succ]
  go_wp2
  go_ret
  exact ⟨rfl, rfl⟩

/-- what spec.Words hands back, whatever bytes come in -/
def Told8 (w : World) (e : Ending) (w' : World) : Prop := ∃ v ws, e = .returned v ∧ ws.length ≤ 40 ∧ (∀ l ∈ ws, W7 l) ∧ w'.ownsRow w.heap.size 9 1 v ws.length (strs ws) ∧ Below w.heap.size w w'
theorem words_nil (ao : Option Addr) (cap : Nat) (w : World) : Calls Try.prog 31 #[.slice ao 0 cap] w (Told8 w) := by
  refine (words_none ao cap w).mono ?_
  rintro e w' ⟨rfl, rfl⟩
  exact ⟨_, [], rfl, by simp, (fun l h => by cases h), World.ownsRow_nil _ _ _ _, Below.refl _ _⟩
end Go.Proofs.Ytmphoafjeojodaa
