/- impl.Wrapped, spec.Most -/
import Derived.Test.YtmphoafjeojodaaDoorWs
namespace Go.Proofs.YtmphoafjeojodaaDoor
open Go.RowKit

theorem wrapped_any {lim : Nat} (hlim : lim ≤ 1000000) {rs : List Int} (ha : AllA' rs) (hl : rs.length ≤ 10000) (w : World) :
    Calls Tryd.prog 6 #[.string (enc rs), .int .i64 lim] w fun e w' => e = .returned (.string (enc (wrapL lim rs))) ∧ Below w.heap.size w w' := by
  obtain ⟨t, HT⟩ : ∃ t, Hid (t = enc (wrapL lim rs)) := ⟨_, rfl⟩
  rw [← HT.out]
  go_enter Tryd.func6, Tryd.ntmps6
  go_wp2_with fail
  refine (wrapString_any hlim ha hl _).mono ?_
  rintro e w1 ⟨rfl, hb1⟩
  rw [← HT.out]
  go_wp2
  go_ret
  exact ⟨rfl, hb1⟩

theorem most_any {n : Int} (h0 : 0 ≤ n) (h1 : n ≤ 255) (w : World) :
    Calls Tryd.prog 7 #[.int .u8 n] w fun e w' => ∃ m : Nat, e = .returned (.int .i64 m) ∧ 2 ≤ m ∧ m ≤ 22 ∧ m = (n % 20).toNat + 2 ∧ w = w' := by
  obtain ⟨k, rfl⟩ : ∃ k : Nat, n = (k : Int) := ⟨n.toNat, by omega⟩
  obtain ⟨m, hm⟩ : ∃ m : Nat, m = k % 20 + 2 := ⟨_, rfl⟩
  have hq : (k : Int).tmod 20 = (k : Int) % 20 := Int.tmod_eq_emod_of_nonneg (by omega)
  have hfin : (2 : Int) + (k : Int) % 20 = (m : Int) := by omega
  have H : Hid (2 ≤ m ∧ m ≤ 22 ∧ m = ((k : Int) % 20).toNat + 2) := by show _ ∧ _ ∧ _; omega
  clear hm
  go_enter Tryd.func7, Tryd.ntmps7
  go_wp2
  go_ret
  exact ⟨m, rfl, H.out.1, H.out.2.1, H.out.2.2, rfl⟩
end Go.Proofs.YtmphoafjeojodaaDoor
