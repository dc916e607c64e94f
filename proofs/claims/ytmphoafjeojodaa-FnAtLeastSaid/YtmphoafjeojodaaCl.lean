/- Params.Clone -/
import Derived.Test.YtmphoafjeojodaaFls
import Derived.Test.YtmphoafjeojodaaBo
import Derived.BigRegion
namespace Go.Proofs.Ytmphoafjeojodaa
open Go.RowKit

def Par9 (w : World) (g : Nat) (ms bt : Nat) : Prop := Par8 w g ms bt ∧ w.cell? ⟨g, 3, none⟩ = some (.int .i64 0)
/-- a new set of parameters -/
def parBlock (ms bt : Nat) : Obj := .cells #[.int .i64 1, .int .i64 1, .int .i64 1, .int .i64 0, .float .f64 ms, .int .i64 4, .float .f64 C01, .float .f64 bt] 61

set_option maxRecDepth 100000 in
set_option maxHeartbeats 1600000 in
theorem clone_any (g ms bt : Nat) (w : World) (hg : Par9 w g ms bt) :
    Calls Try.prog 48 #[.pointer (some ⟨g, 0, none⟩)] w fun e w' => e = .returned (.pointer (some ⟨w.heap.size, 0, none⟩)) ∧ (w.alloc (parBlock ms bt)).drew = w' := by
  obtain ⟨⟨p0, p1, p2, p4, p5, p6, p7⟩, p3⟩ := hg
  unfold parBlock
  unfold C01 at p6 ⊢
  go_enter Try.func48, Try.ntmps48
  go_wp2
  go_region
  go_wp2
  go_ret
  exact ⟨rfl, rfl⟩
end Go.Proofs.Ytmphoafjeojodaa
