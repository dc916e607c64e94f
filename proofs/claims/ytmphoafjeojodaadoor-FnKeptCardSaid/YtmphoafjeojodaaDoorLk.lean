/- FnKept: the walk -/
import Derived.Test.YtmphoafjeojodaaDoorBa
import Derived.Test.YtmphoafjeojodaaDoorWm
import Derived.Test.YtmphoafjeojodaaDoorF
namespace Go.Proofs.YtmphoafjeojodaaDoor
open Go.RowKit

theorem mixed_any {a : Option Addr} {len cap : Nat} {z : List Int} {w : World} (h : IsRow .u8 w a len cap z) (hl : len ≤ 2147483647) :
    Calls Tryd.prog 4 #[.slice a len cap] w fun e w' => ∃ rs : List Int, e = .returned (.string (enc rs)) ∧ AllA' rs ∧ rs.length ≤ 200 ∧ Below w.heap.size w w' := by
  rcases h.open with ⟨h, _⟩ | ⟨b, off, h1, h2, _, _, _, h3, h4, h5⟩
  · exact mixed_core a 0 0 len cap z w (fun g => by omega) (fun g => by omega) hl (fun i hi => by omega) (fun i hi => by omega)
  · exact mixed_core a b off len cap z w (fun _ => h1) (fun _ => h3) hl h4 (fun i hi => bounds_u8 (h5 i hi))

/-- what spec.Bare tells of a text, where the tables lie as they were laid -/
def Bares (s t : ByteArray) : Prop := ∀ w : World, Tabs w → Calls Tryd.prog 5 #[.string s] w fun e w' => e = .returned (.string t) ∧ Below w.heap.size w w'

set_option maxRecDepth 100000 in
set_option maxHeartbeats 1600000 in
theorem law_kept (a0 : Option Addr) (len0 cap0 : Nat) (z0 : List Int) (n : Int) (w : World) (w0 : IsRow .u8 w a0 len0 cap0 z0) (w2 : (Lit.int .u8 n).wf = true) (hT : Tabs w) :
    Calls Tryd.prog 3 #[.slice a0 len0 cap0, .int .u8 n] w fun e w' => e = .returned (.bool true) ∧ Below w.heap.size w w' := by
  have HTab := Lib.hid hT
  clear hT
  have hn := bounds_u8 w2
  have hn0 := hn.1
  have hn1 := hn.2
  by_cases h : 2147483647 < len0
  · go_enter Tryd.func3, Tryd.ntmps3
    go_wp2
    go_ret
    exact ⟨rfl, Below.refl _ _⟩
  · go_enter Tryd.func3, Tryd.ntmps3
    go_wp2_with fail
    refine (mixed_any w0 (by omega)).mono ?_
    rintro e w3 ⟨rs, rfl, ha, hl, hb3⟩
    have T3 := Lib.hid (HTab.out.below hb3)
    go_wp2_with fail
    refine (most_any hn0 hn1 _).mono ?_
    rintro e w4 ⟨m, rfl, hm1, hm2, hm3, rfl⟩
    clear hm3
    obtain ⟨s, t, u, c1, c2, c3⟩ : ∃ s t u : ByteArray, Hid (s = enc rs) ∧ (∀ W, Calls Tryd.prog 6 #[.string s, .int .i64 m] W fun e w' => e = .returned (.string t) ∧ Below W.heap.size W w') ∧ Bares t u ∧ Bares s u := by
      have e1 := wrap_all m rs ha
      refine ⟨enc rs, enc (wrapL m rs), enc (bareL rs), rfl, fun W => wrapped_any (by omega) ha (by omega) W, ?_, ?_⟩
      · rw [← wrap_kept m rs]
        exact fun W hW => bare_any e1.1 (by omega) W hW
      · exact fun W hW => bare_any ha (by omega) W hW
    obtain ⟨c3, c4⟩ := c3
    have C2 := Lib.hid c2
    have C3 := Lib.hid c3
    have C4 := Lib.hid c4
    rw [← c1.out]
    clear c1 c2 c3 c4
    go_wp2_with fail
    refine (C2.out _).mono ?_
    rintro e w5 ⟨rfl, hb5⟩
    have T5 := Lib.hid (T3.out.below hb5)
    go_wp2_with fail
    refine (C3.out _ T5.out).mono ?_
    rintro e w6 ⟨rfl, hb6⟩
    have T6 := Lib.hid (T5.out.below hb6)
    go_wp2_with fail
    refine (C4.out _ T6.out).mono ?_
    rintro e w7 ⟨rfl, hb7⟩
    go_wp2_with fail
    refine (impl_dist ⟨#[97, 98]⟩ ⟨#[98]⟩ _ (by decide) (by decide)).mono ?_
    rintro e w8 ⟨rfl, hb8⟩
    rw [ab_b]
    go_wp2
    go_ret
    have s3 := hb3.size
    have s5 := hb5.size
    have s6 := hb6.size
    have s7 := hb7.size
    exact ⟨rfl, (((hb3.trans (hb5.mono s3)).trans (hb6.mono (by omega))).trans (hb7.mono (by omega))).trans (hb8.mono (by omega))⟩
end Go.Proofs.YtmphoafjeojodaaDoor
