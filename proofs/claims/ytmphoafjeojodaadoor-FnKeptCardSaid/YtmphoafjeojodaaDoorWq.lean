/- a wrapped text: its letters and its length -/
import Derived.Test.YtmphoafjeojodaaDoorWs
namespace Go.Proofs.YtmphoafjeojodaaDoor
open Go.RowKit
theorem run_all (lim : Nat) (rs : List Int) : ∀ s : WS, AllA' rs → AllA' s.out → AllA' s.word → AllA' s.sp →
    AllA' (runW lim s rs).out ∧ AllA' (runW lim s rs).word ∧ AllA' (runW lim s rs).sp ∧
    (runW lim s rs).out.length + (runW lim s rs).word.length + (runW lim s rs).sp.length ≤ s.out.length + s.word.length + s.sp.length + 2 * rs.length := by
  induction rs with
  | nil => intro s _ h1 h2 h3; exact ⟨h1, h2, h3, by simp [runW]⟩
  | cons c rs ih =>
    intro s h h1 h2 h3
    obtain ⟨q1, q2, q3, q4, _⟩ := step_all lim s c (h c (by simp)) h1 h2 h3
    obtain ⟨r1, r2, r3, r4⟩ := ih (stepW lim s c) (fun r hr => h r (by simp [hr])) q1 q2 q3
    rw [runW_cons]
    exact ⟨r1, r2, r3, by rw [List.length_cons]; omega⟩
theorem wrap_all (lim : Nat) (rs : List Int) (h : AllA' rs) : AllA' (wrapL lim rs) ∧ (wrapL lim rs).length ≤ 2 * rs.length := by
  obtain ⟨r1, r2, r3, r4⟩ := run_all lim rs ⟨[], 0, [], []⟩ h alla_nil alla_nil alla_nil
  unfold wrapL finishW
  simp only [List.length_nil] at r4
  split
  · split
    · exact ⟨alla_app r1 r3, by simp; omega⟩
    · exact ⟨r1, by omega⟩
  · exact ⟨alla_app (alla_app r1 r3) r2, by simp; omega⟩
end Go.Proofs.YtmphoafjeojodaaDoor
