/- levenshtein.Match where a least score is asked -/
import Derived.Test.YtmphoafjeojodaaKc
import Derived.Test.YtmphoafjeojodaaFls
import Derived.Test.YtmphoafjeojodaaBo
namespace Go.Proofs.Ytmphoafjeojodaa
open Go.RowKit

theorem run_to_int {b : Nat} {n : Int} (h : floatToIntVal .f64 b .i64 = some n) (w : World) : (convert 36 3 (.float .f64 b)).run Try.prog w = .ok (.int .i64 n) w :=
  run_convert_float_int (P := Try.prog) w 36 3 .f64 .i64 b n (by kernel_rfl) (by kernel_rfl) h

set_option maxRecDepth 100000 in
set_option maxHeartbeats 3200000 in
theorem match_least (a b : ByteArray) (g t : Nat) (w : World) (ha : Text20 a) (hb : Text20 b) (ht : t ≤ 10) (hg : Par8 w g (tenthV t) C11)
    (hbd : Bound (rn a) (rn b) (rl a) (rl b) (mx t (ln a b))) (hdx : mx t (ln a b) = 0 ∨ dn a b ≤ mx t (ln a b)) :
    Calls Try.prog 42 #[.string a, .string b, .pointer (some ⟨g, 0, none⟩)] w fun e w' => e = .returned (.float .f64 (leastV t (dn a b) (ln a b))) ∧ Below w.heap.size w w' := by
  obtain ⟨tv, htv⟩ : ∃ tv, tv = tenthV t := ⟨_, rfl⟩
  obtain ⟨_, ft2, ft3, ft4, ft5, ft6, ft7⟩ := tenth_facts t ht
  rw [← htv] at hg ft2 ft3 ft4 ft5 ft6 ft7
  unfold ford ONE at ft3
  have FT2 := Lib.hid ft2
  have FT4 := Lib.hid ft4
  have FT5 := Lib.hid ft5
  have FT6 := Lib.hid ft6
  have HTV := Lib.hid htv
  have HBD := Lib.hid hbd
  have HDX := Lib.hid hdx
  clear ft2 ft4 ft5 ft6 ft7 htv hbd hdx
  have sa := ha.size
  have sb := hb.size
  have la := ha.len
  have lb := hb.len
  obtain ⟨n1, hn1⟩ : ∃ n1, n1 = rl a := ⟨_, rfl⟩
  obtain ⟨n2, hn2⟩ : ∃ n2, n2 = rl b := ⟨_, rfl⟩
  have hca := fun wx => conv_runes a (by omega) wx
  have hcb := fun wx => conv_runes b (by omega) wx
  have hln : ln a b = max n1 n2 := by unfold ln; rw [hn1, hn2]
  rw [← hn1] at hca la
  rw [← hn2] at hcb lb
  have HN1 : Hid (n1 = rl a) := hn1
  have HN2 : Hid (n2 = rl b) := hn2
  have HLN : Hid (ln a b = max n1 n2) := hln
  have hcap1 := fun W => rl_cap W a
  have hcap2 := fun W => rl_cap W b
  rw [← hn1] at hcap1
  rw [← hn2] at hcap2
  clear hn1 hn2 hln
  have HC1 : Hid (∀ W, n1 ≤ runeCap W a) := hcap1
  have HC2 : Hid (∀ W, n2 ≤ runeCap W b) := hcap2
  clear hcap1 hcap2
  by_cases hz : n1 = 0 ∧ n2 = 0
  · have z1 : ((n1 : Int) == 0) = true := by simp; omega
    have z2 : ((n2 : Int) == 0) = true := by simp; omega
    go_enter Try.func42, Try.ntmps42
    go_wp2
    go_ret
    have hd0 := dn_le a b
    have hm0 : ln a b = 0 := by rw [HLN.out]; omega
    rw [hm0]
    have hfin : leastV t (dn a b) 0 = ONE := by
      unfold leastV
      have h1 : likeV (dn a b) 0 = ONE := rfl
      rw [h1, ← HTV.out, FT5.out]
      rfl
    exact ⟨ret_float (by rw [hfin]; rfl), (((Below.refl _ w).alloc (Nat.le_refl _) _).alloc (by simp) _).drew.drew⟩
  · have hB0 : Below w.heap.size w ((w.alloc (runeBlock w a)).alloc (runeBlock (w.alloc (runeBlock w a)).drew b)) := ((Below.refl _ w).alloc (Nat.le_refl _) _).alloc (by simp) _
    have hX0 : Rin ((w.alloc (runeBlock w a)).alloc (runeBlock (w.alloc (runeBlock w a)).drew b)) w.heap.size 0 n1 (rn a) := by rw [HN1.out]; exact (two_conv w _ _ a b).1
    have hY0 : Rin ((w.alloc (runeBlock w a)).alloc (runeBlock (w.alloc (runeBlock w a)).drew b)) (w.heap.size + 1) 0 n2 (rn b) := by rw [HN2.out]; exact (two_conv w _ _ a b).2
    have hS0 : w.heap.size + 1 < ((w.alloc (runeBlock w a)).alloc (runeBlock (w.alloc (runeBlock w a)).drew b)).heap.size := by simp
    go_enter Try.func42, Try.ntmps42
    go_upto_region 3 with fail
    go_cut [32] from 27 to 31 (fun s32 wx => s32 = .bool false ∧ Below w.heap.size w wx ∧ Rin wx w.heap.size 0 n1 (rn a) ∧ Rin wx (w.heap.size + 1) 0 n2 (rn b) ∧ w.heap.size + 1 < wx.heap.size)
    case first =>
      by_cases z1 : n1 = 0
      · have e1 : ((n1 : Int) == 0) = true := by simp; omega
        have e2 : ((n2 : Int) == 0) = false := by simp; omega
        clear z1 hz
        go_wp2
        go_meet
        exact ⟨rfl, hB0.drew.drew, hX0, hY0, hS0⟩
      · have e1 : ((n1 : Int) == 0) = false := by simp; omega
        clear z1 hz
        go_wp2
        go_meet
        exact ⟨rfl, hB0.drew.drew, hX0, hY0, hS0⟩
    case rest =>
      clear hB0 hX0 hY0 hS0 hca hcb
      obtain ⟨rfl, hB, hX, hY, hS⟩ := hcut
      obtain ⟨p0, p1, p2, p4, p5, p6, p7⟩ : Par8 wc g tv C11 := hg.below hB
      clear hg
      unfold C11 at p7
      go_wp2_with fail
      go_region
      go_upto_if 51 with fail
      have hB1 := hB.drew
      have hX1 := hX.drew
      have hY1 := hY.drew
      have hS1 : w.heap.size + 1 < wc.drew.heap.size := hS
      obtain ⟨m, hm⟩ : ∃ m, m = max n1 n2 := ⟨_, rfl⟩
      obtain ⟨lo, hlo⟩ : ∃ lo, lo = min n1 n2 := ⟨_, rfl⟩
      rw [← hm] at HLN
      go_cut [9, 10, 11, 12] from 52 to 55 (fun s9 s10 s11 s12 wx => s9 = .int .i64 lo ∧ s10 = .int .i64 m ∧ s11 = .int .i64 1 ∧ s12 = .int .i64 1 ∧ wc.drew = wx)
      case first =>
        by_cases hgt : n2 < n1
        · obtain rfl : m = n1 := by omega
          obtain rfl : lo = n2 := by omega
          clear hm hlo
          go_wp2
          go_meet
          exact ⟨rfl, rfl, rfl, rfl, rfl⟩
        · obtain rfl : m = n2 := by omega
          obtain rfl : lo = n1 := by omega
          clear hm hlo
          go_wp2
          go_meet
          exact ⟨rfl, rfl, rfl, rfl, rfl⟩
      case rest =>
        obtain ⟨rfl, rfl, rfl, rfl, rfl⟩ := hcut
        have hm20 : m ≤ 20 := by omega
        have hm1 : 1 ≤ m := by omega
        have hlom : lo ≤ m := by omega
        have hmd : (lo : Int) + ((m : Int) - (lo : Int)) = (m : Int) := by omega
        clear hm hlo hz
        have hgl := World.block_lt_of_cell? wc _ p0
        have la60 : n1 ≤ 60 := by omega
        have lb60 : n2 ≤ 60 := by omega
        have hc1 := HC1.out w
        have hc2 := HC2.out (w.alloc (runeBlock w a)).drew
        obtain ⟨mm, hmm⟩ : ∃ mm, mm = mx t m := ⟨_, rfl⟩
        obtain ⟨fr1, fr2, fr3, _⟩ := room_facts t m ht hm20
        rw [← HTV.out] at fr1
        rw [HLN.out, ← hmm] at HBD HDX
        rw [← hmm] at fr2 fr3
        have hbd2 : Bound (rn a) (rn b) n1 n2 mm := by rw [HN1.out, HN2.out]; exact HBD.out
        have HBD2 := Lib.hid hbd2
        have HMM := Lib.hid hmm
        clear hbd2 HBD hmm
        obtain ⟨c0, hc0⟩ : ∃ c0, (FloatKind.f64.format.order tv 0 == some .gt) = c0 := ⟨_, rfl⟩
        have HC0 : Hid (c0 = (t != 0)) := by rw [← hc0]; exact FT6.out
        go_upto_if 87 with fail
        go_cut [14] from 88 to 126 (fun s14 wx => s14 = .int .i64 mm ∧ Below w.heap.size w wx ∧ Par8 wx g tv C11 ∧ Rin wx w.heap.size 0 n1 (rn a) ∧ Rin wx (w.heap.size + 1) 0 n2 (rn b) ∧ w.heap.size + 1 < wx.heap.size)
        case first =>
          have hB2 := hB1.drew
          have hX2 := hX1.drew
          have hY2 := hY1.drew
          cases c0
          · have h0 : t = 0 := by simpa using HC0.out
            have e0 : mm = 0 := by rw [HMM.out, h0, mx_zero]
            subst e0
            go_wp2
            go_meet
            exact ⟨rfl, hB1, ⟨p0, p1, p2, p4, p5, p6, p7⟩, hX1, hY1, hS1⟩
          · have h0 : t ≠ 0 := by simpa using HC0.out
            have hlt := FT4.out
            unfold ford C11 at hlt
            have r1 := run_fop FT2.out 36
            have r2 := run_fop fr1 36
            have r3 := run_to_int (fr2 h0)
            unfold roomV at r3
            rw [← HTV.out] at r3
            unfold fl at r2 r3
            unfold ONE at r1 r2 r3
            clear fr1 fr2
            go_wp2_with fail
            go_region
            go_wp2
            go_meet
            exact ⟨rfl, hB1.drew, ⟨p0, p1, p2, p4, p5, p6, p7⟩, hX1.drew, hY1.drew, hS1⟩
        case rest =>
          clear hB1 hX1 hY1 hS1 p0 p1 p2 p4 p5 p6 p7 hB hX hY hS hc0 hgl fr1 fr2
          obtain ⟨rfl, hB, ⟨p0, p1, p2, p4, p5, p6, p7⟩, hX, hY, hS⟩ := hcut
          have hgl := World.block_lt_of_cell? wc _ p0
          go_wp2_with fail
          go_region_held3 (fun w' => w'.cell? ⟨g, 0, none⟩ = some (.int .i64 1) ∧ w'.cell? ⟨g, 1, none⟩ = some (.int .i64 1) ∧ w'.cell? ⟨g, 2, none⟩ = some (.int .i64 1))
            (first | go_keep | exact ⟨(hb.cell (p := ⟨g, 0, none⟩) (by exact hgl)).trans p0, (hb.cell (p := ⟨g, 1, none⟩) (by exact hgl)).trans p1, (hb.cell (p := ⟨g, 2, none⟩) (by exact hgl)).trans p2⟩)
            (first | (go_at_call 35; refine (calc_least _ _ _ _ (rn a) _ _ _ _ (rn b) _ _ la60 lb60 hc1 hc2 (by exact hX) (by exact hY) HBD2.out).mono ?_; rintro e w' ⟨⟨P, Q, rfl, HP, _⟩, hb⟩))
          have hbw : Below w.heap.size w w' := hB.drew.trans (hb.mono (by exact hB.size))
          have hed : ed (rn a) (rn b) 1 1 1 n1 n2 = (dn a b : Int) := by rw [HN1.out, HN2.out]; exact dn_eq a b
          have hdm : dn a b ≤ m := by rw [← HLN.out]; exact dn_le a b
          have q0 : w'.cell? ⟨g, 4, none⟩ = some (.float .f64 tv) := (hb.cell (p := ⟨g, 4, none⟩) (by exact hgl)).trans p4
          have q1 : w'.cell? ⟨g, 5, none⟩ = some (.int .i64 4) := (hb.cell (p := ⟨g, 5, none⟩) (by exact hgl)).trans p5
          have q2 : w'.cell? ⟨g, 6, none⟩ = some (.float .f64 4591870180066957722) := (hb.cell (p := ⟨g, 6, none⟩) (by exact hgl)).trans p6
          have q3 : w'.cell? ⟨g, 7, none⟩ = some (.float .f64 4607632778762754458) := (hb.cell (p := ⟨g, 7, none⟩) (by exact hgl)).trans p7
          obtain ⟨d, hd⟩ : ∃ d, d = dn a b := ⟨_, rfl⟩
          rw [← hd] at hed hdm HDX
          have HDN : Hid (d = dn a b) := hd
          obtain ⟨f1, _, f3, f4, _⟩ := like_facts d m hm20 hdm
          obtain ⟨f5, f6⟩ := f1 (by omega)
          have r1 := run_fop f5 36
          have r2 := run_fop f6 36
          obtain ⟨v, hv⟩ : ∃ v, v = likeV d m := ⟨_, rfl⟩
          have hv2 : v = fop .sub ONE (fop .quo (fl d) (fl m)) := by rw [hv]; unfold likeV; rw [if_neg (by omega)]
          rw [← hv2] at r2
          rw [← hv] at f3 f4
          have HV : Hid (v = likeV d m) := hv
          unfold fl at r1
          unfold ONE fl at r2
          unfold ford C11 at f3 f4
          clear hd hv hv2 f1 f5 f6 hb hX hY p0 p1 p2 p4 p5 p6 p7 hmd hlom hc1 hc2
          obtain ⟨c1, hc1⟩ : ∃ c, (FloatKind.f64.format.order v tv == some .lt) = c := ⟨_, rfl⟩
          have HM : Hid (leastV t d m = if c1 = true then 0 else v) := by
            unfold leastV ford
            rw [← HV.out, ← HTV.out, hc1]; rfl
          rcases HDX.out with h0 | h0
          all_goals
            cases c1
            all_goals
              go_wp2
              all_goals
                go_ret
                exact ⟨ret_float (by rw [← HDN.out, HLN.out, HM.out]; rfl), hbw⟩
end Go.Proofs.Ytmphoafjeojodaa
