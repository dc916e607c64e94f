/- spec.Ends -/
import Derived.Test.YtmphoafjeojodaaD
import Derived.Deep.CutRange
import Derived.Deep.QuietTactic
import Derived.BigQuiet
import Derived.Deep.CutBlock
namespace Go.Proofs.Ytmphoafjeojodaa
open Go.RowKit

def Ended (x y : Nat → Int) (l1 l2 : Nat) (e : Ending) : Prop := ∃ P Q : Nat, e = .returned (.tuple #[.int .i64 P, .int .i64 Q]) ∧
  IsPre x y l1 l2 P ∧ IsSuf (fun n => x (P + n)) (fun n => y (P + n)) (l1 - P) (l2 - P) Q

theorem below_drewN {B : Nat} {a w : World} (h : Below B a w) (n : Nat) : Below B a (w.drewN n) := h.trans ⟨rfl, rfl, rfl, Nat.le_refl _, fun _ _ => rfl⟩

set_option maxRecDepth 100000 in
set_option maxHeartbeats 3200000 in
theorem ends_any (a b : ByteArray) (w : World) (ha : a.size ≤ 60) (hb : b.size ≤ 60) :
    Calls Try.prog 17 #[.string a, .string b] w fun e w' => Ended (rn a) (rn b) (rl a) (rl b) e ∧ Below w.heap.size w w' := by
  have hca := fun wx => conv_runes a (by omega) wx
  have hcb := fun wx => conv_runes b (by omega) wx
  have la := rl_le a
  have lb := rl_le b
  obtain ⟨m, hm1, hm2, hm3, hmm⟩ : ∃ m : Nat, m ≤ rl a ∧ m ≤ rl b ∧ (m = rl a ∨ m = rl b) ∧ min (rl a : Int) (rl b : Int) = (m : Int) := ⟨min (rl a) (rl b), by omega, by omega, by omega, by omega⟩
  have HM : Hid (m = rl a ∨ m = rl b) := hm3
  clear hm3
  go_enter Try.func17, Try.ntmps17
  go_upto_block 0 with fail
  have h0 := two_conv w w (w.alloc (runeBlock w a)).drew a b
  have hB0 : Below w.heap.size w ((w.alloc (runeBlock w a)).alloc (runeBlock (w.alloc (runeBlock w a)).drew b)) := ((Below.refl _ w).alloc (Nat.le_refl _) _).alloc (by simp) _
  clear hca hcb
  go_cut [8] from 14 to 33 (fun s wx => ∃ P : Nat, s = .int .i64 P ∧ IsPre (rn a) (rn b) (rl a) (rl b) P ∧ Rin wx w.heap.size 0 (rl a) (rn a) ∧ Rin wx (w.heap.size + 1) 0 (rl b) (rn b) ∧ Below w.heap.size w wx)
  case first =>
    go_wp2_with fail
    go_loopw [8] (fun s wr => ∃ P : Nat, P ≤ m ∧ s = .int .i64 P ∧ Same (rn a) (rn b) P ∧ Rin wr w.heap.size 0 (rl a) (rn a) ∧ Rin wr (w.heap.size + 1) 0 (rl b) (rn b) ∧ Below w.heap.size w wr) (fun s _ => m - (intOf s).toNat)
    case atStart => exact ⟨0, by omega, rfl, fun n hn => by omega, h0.1, h0.2, hB0.drew.drew⟩
    case round =>
      clear h0 hB0
      obtain ⟨P, hP, rfl, HS, hx, hy, hnx⟩ := hrel
      by_cases g : P < m
      · have hcx : wr.cell? ⟨w.heap.size, P, none⟩ = some (.int .i32 (rn a P)) := by simpa using hx P (by omega)
        have hcy : wr.cell? ⟨w.heap.size + 1, P, none⟩ = some (.int .i32 (rn b P)) := by simpa using hy P (by omega)
        have k1 : (P : Int) < (rl a : Int) := by omega
        have k2 : (P : Int) < (rl b : Int) := by omega
        go_wp2_with fail
        go_quiet (fail)
        go_wp2
        · go_roundw
          have e : (rn a P == rn b P) = true := by assumption
          case rel => exact ⟨P + 1, by omega, by go_num, HS.snoc (by simpa using e), hx, hy, below_drewN hnx _⟩
          case measure => simp [intOf]; omega
        · go_meet
          have e : (rn a P == rn b P) = false := by assumption
          exact ⟨P, rfl, ⟨by omega, by omega, HS, .inr (.inr (by simpa using e))⟩, hx, hy, below_drewN hnx _⟩
      · have hd : decide ((P : Int) < (m : Int)) = false := by simpa using g
        go_wp2_with fail
        go_quiet (fail)
        go_wp2
        go_meet
        exact ⟨P, rfl, ⟨by omega, by omega, HS, by have := HM.out; omega⟩, hx, hy, below_drewN hnx _⟩
  case rest =>
    clear h0 hB0 hmm HM hm1 hm2
    obtain ⟨P, rfl, HP, hx, hy, hB⟩ := hcut
    have hP1 := HP.1
    have hP2 := HP.2.1
    obtain ⟨ox, hox, hs1⟩ := slice_from w.heap.size 0 (rl a) (runeCap w a) P hP1 (rl_cap _ _)
    obtain ⟨oy, hoy, hs2⟩ := slice_from (w.heap.size + 1) 0 (rl b) (runeCap (w.alloc (runeBlock w a)).drew b) P hP2 (rl_cap _ _)
    obtain ⟨n1, hn1⟩ : ∃ n1, n1 = rl a - P := ⟨_, rfl⟩
    obtain ⟨n2, hn2⟩ : ∃ n2, n2 = rl b - P := ⟨_, rfl⟩
    obtain ⟨d1, hd1⟩ : ∃ d1, d1 = runeCap w a - P := ⟨_, rfl⟩
    obtain ⟨d2, hd2⟩ : ∃ d2, d2 = runeCap (w.alloc (runeBlock w a)).drew b - P := ⟨_, rfl⟩
    rw [← hn1, ← hd1] at hs1
    rw [← hn2, ← hd2] at hs2
    have hx1 : Rin wc w.heap.size ox n1 (fun n => rn a (P + n)) := fun i hi => by
      have := hx (P + i) (by omega)
      rw [hox (by omega), Nat.add_assoc]; exact this
    have hy1 : Rin wc (w.heap.size + 1) oy n2 (fun n => rn b (P + n)) := fun i hi => by
      have := hy (P + i) (by omega)
      rw [hoy (by omega), Nat.add_assoc]; exact this
    have HN1 : Hid (n1 = rl a - P) := hn1
    have HN2 : Hid (n2 = rl b - P) := hn2
    have g1 : n1 ≤ 60 := by omega
    have g2 : n2 ≤ 60 := by omega
    obtain ⟨m, hm1, hm2, hm3, hmm⟩ : ∃ m : Nat, m ≤ n1 ∧ m ≤ n2 ∧ (m = n1 ∨ m = n2) ∧ min (n1 : Int) (n2 : Int) = (m : Int) := ⟨min n1 n2, by omega, by omega, by omega, by omega⟩
    have HM : Hid (m = n1 ∨ m = n2) := hm3
    clear hn1 hn2 hd1 hd2 hox hoy hm3 hx hy
    go_wp2
    go_region
    clear hs1 hs2
    go_wp2_with fail
    have hB1 := hB.drew
    have hx2 := hx1.drew
    have hy2 := hy1.drew
    go_loopw [9] (fun s wr => ∃ Q : Nat, Q ≤ m ∧ s = .int .i64 Q ∧ SameEnd (fun n => rn a (P + n)) (fun n => rn b (P + n)) n1 n2 Q ∧ Rin wr w.heap.size ox n1 (fun n => rn a (P + n)) ∧ Rin wr (w.heap.size + 1) oy n2 (fun n => rn b (P + n)) ∧ Below w.heap.size w wr) (fun s _ => m - (intOf s).toNat)
    case atStart => exact ⟨0, by omega, rfl, fun n hn => by omega, hx2, hy2, hB1⟩
    case round =>
      clear hx1 hy1 hB hx2 hy2 hB1
      obtain ⟨Q, hQ, rfl, HS, hx, hy, hnx⟩ := hrel
      by_cases g : Q < m
      · obtain ⟨t1, ht1⟩ : ∃ t1 : Nat, (n1 : Int) - 1 = (t1 : Int) := ⟨n1 - 1, by omega⟩
        obtain ⟨t2, ht2⟩ : ∃ t2 : Nat, (n2 : Int) - 1 = (t2 : Int) := ⟨n2 - 1, by omega⟩
        obtain ⟨i1, hi1⟩ : ∃ i1 : Nat, (t1 : Int) - (Q : Int) = (i1 : Int) := ⟨t1 - Q, by omega⟩
        obtain ⟨i2, hi2⟩ : ∃ i2 : Nat, (t2 : Int) - (Q : Int) = (i2 : Int) := ⟨t2 - Q, by omega⟩
        have hw1 : IntKind.i64.wrap (t1 : Int) = (t1 : Int) := IntWalk.i64_in _ (by omega)
        have hw2 : IntKind.i64.wrap (t2 : Int) = (t2 : Int) := IntWalk.i64_in _ (by omega)
        have hw3 : IntKind.i64.wrap (i1 : Int) = (i1 : Int) := IntWalk.i64_in _ (by omega)
        have hw4 : IntKind.i64.wrap (i2 : Int) = (i2 : Int) := IntWalk.i64_in _ (by omega)
        have hcx := hx i1 (by omega)
        have hcy := hy i2 (by omega)
        have k1 : (i1 : Int) < (n1 : Int) := by omega
        have k2 : (i2 : Int) < (n2 : Int) := by omega
        have k3 : i1 = n1 - 1 - Q := by omega
        have k4 : i2 = n2 - 1 - Q := by omega
        have K3 : Hid (i1 = n1 - 1 - Q) := k3
        have K4 : Hid (i2 = n2 - 1 - Q) := k4
        clear k3 k4
        go_wp2_with fail
        go_quiet (fail)
        go_wp2
        · go_roundw
          have e : (rn a (P + i1) == rn b (P + i2)) = true := by assumption
          case rel =>
            refine ⟨Q + 1, by omega, by go_num, HS.snoc ?_, hx, hy, below_drewN hnx _⟩
            rw [← K3.out, ← K4.out]
            simpa using e
          case measure => simp [intOf]; omega
        · go_ret2
          have e : (rn a (P + i1) == rn b (P + i2)) = false := by assumption
          refine ⟨⟨P, Q, rfl, HP, ?_⟩, below_drewN hnx _⟩
          rw [← HN1.out, ← HN2.out]
          refine ⟨by omega, by omega, HS, .inr (.inr ?_)⟩
          rw [← K3.out, ← K4.out]
          simpa using e
      · have hd : decide ((Q : Int) < (m : Int)) = false := by simpa using g
        go_wp2_with fail
        go_quiet (fail)
        go_wp2
        go_ret2
        refine ⟨⟨P, Q, rfl, HP, ?_⟩, below_drewN hnx _⟩
        rw [← HN1.out, ← HN2.out]
        exact ⟨by omega, by omega, HS, by have := HM.out; omega⟩
end Go.Proofs.Ytmphoafjeojodaa
