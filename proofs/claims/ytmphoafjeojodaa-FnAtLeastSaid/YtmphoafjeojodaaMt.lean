/- levenshtein.Match where no least score is asked -/
import Derived.Test.YtmphoafjeojodaaLk
import Derived.Deep.RegionHeld3
import Derived.Deep.CutRange
import Derived.BigQuiet
import Derived.Deep.QuietTactic
namespace Go.Proofs.Ytmphoafjeojodaa
open Go.RowKit

/-- the whole set of parameters -/
def Par8 (w : World) (g : Nat) (ms bt : Nat) : Prop := w.cell? ⟨g, 0, none⟩ = some (.int .i64 1) ∧ w.cell? ⟨g, 1, none⟩ = some (.int .i64 1) ∧ w.cell? ⟨g, 2, none⟩ = some (.int .i64 1) ∧
  w.cell? ⟨g, 4, none⟩ = some (.float .f64 ms) ∧ w.cell? ⟨g, 5, none⟩ = some (.int .i64 4) ∧ w.cell? ⟨g, 6, none⟩ = some (.float .f64 C01) ∧ w.cell? ⟨g, 7, none⟩ = some (.float .f64 bt)

def near2 (v bt : Nat) : Bool := ford v bt == some .gt || ford v bt == some .eq
def bonusV (v p : Nat) : Nat := fop .add v (fop .mul (fop .mul (fl p) C01) (fop .sub ONE v))
def bonusOk (v p : Nat) : Bool := fok .mul (fl p) C01 && fok .sub ONE v && fok .mul (fop .mul (fl p) C01) (fop .sub ONE v) && fok .add v (fop .mul (fop .mul (fl p) C01) (fop .sub ONE v)) && !(ford (bonusV v p) 0 == some .lt)
def matchV (bt d m P : Nat) : Nat := if (near2 (likeV d m) bt && (ford (likeV d m) ONE == some .lt)) = true then bonusV (likeV d m) (min P 4) else likeV d m

theorem ret_float {a b : Nat} (h : a = b) : Ending.returned (.float .f64 a) = .returned (.float .f64 b) := by rw [h]
theorem matchV_zero (bt d P : Nat) : matchV bt d 0 P = ONE := by
  have h : likeV d 0 = ONE := rfl
  have h2 : (ford ONE ONE == some .lt) = false := by decide +kernel
  unfold matchV
  rw [h, h2, Bool.and_false]
  rfl
theorem Par8.below {w w' : World} {g ms bt : Nat} (h : Par8 w g ms bt) (k : Below w.heap.size w w') : Par8 w' g ms bt := by
  have hl : g < w.heap.size := World.block_lt_of_cell? w _ h.1
  obtain ⟨p0, p1, p2, p4, p5, p6, p7⟩ := h
  exact ⟨(k.cell (p := ⟨g, 0, none⟩) hl).trans p0, (k.cell (p := ⟨g, 1, none⟩) hl).trans p1, (k.cell (p := ⟨g, 2, none⟩) hl).trans p2, (k.cell (p := ⟨g, 4, none⟩) hl).trans p4,
    (k.cell (p := ⟨g, 5, none⟩) hl).trans p5, (k.cell (p := ⟨g, 6, none⟩) hl).trans p6, (k.cell (p := ⟨g, 7, none⟩) hl).trans p7⟩

theorem f0_gt_one : (FloatKind.f64.format.order 0 4607182418800017408 == some .gt) = false := by decide +kernel
theorem f0_gt_0 : (FloatKind.f64.format.order 0 0 == some .gt) = false := by decide +kernel
theorem c01_gt_0 : (FloatKind.f64.format.order 4591870180066957722 0 == some .gt) = true := by decide +kernel

set_option maxRecDepth 100000 in
set_option maxHeartbeats 3200000 in
theorem match_any (a b : ByteArray) (po : Option Addr) (bt : Nat) (w : World) (ha : Text20 a) (hb : Text20 b)
    (hg : (po = none ∧ bt = C07) ∨ ∃ g, po = some ⟨g, 0, none⟩ ∧ Par8 w g 0 bt)
    (HB : (near2 (likeV (dn a b) (ln a b)) bt && (ford (likeV (dn a b) (ln a b)) ONE == some .lt)) = true → ∀ p, p ≤ 4 → bonusOk (likeV (dn a b) (ln a b)) p = true) :
    Calls Try.prog 42 #[.string a, .string b, .pointer po] w fun e w' => (∃ P, IsPre (rn a) (rn b) (rl a) (rl b) P ∧ e = .returned (.float .f64 (matchV bt (dn a b) (ln a b) P))) ∧ Below w.heap.size w w' := by
  have sa := ha.size
  have sb := hb.size
  have la := ha.len
  have lb := hb.len
  obtain ⟨n1, hn1⟩ : ∃ n1, n1 = rl a := ⟨_, rfl⟩
  obtain ⟨n2, hn2⟩ : ∃ n2, n2 = rl b := ⟨_, rfl⟩
  have hca := fun wx => conv_runes a (by omega) wx
  have hcb := fun wx => conv_runes b (by omega) wx
  have hln : ln a b = max n1 n2 := by unfold ln; rw [hn1, hn2]
  rw [← hn1] at hca la ⊢
  rw [← hn2] at hcb lb ⊢
  have HN1 : Hid (n1 = rl a) := hn1
  have HN2 : Hid (n2 = rl b) := hn2
  have HLN : Hid (ln a b = max n1 n2) := hln
  have hcap1 := fun W => rl_cap W a
  have hcap2 := fun W => rl_cap W b
  rw [← hn1] at hcap1
  rw [← hn2] at hcap2
  clear hn1 hn2 hln
  have HC1 : Hid (∀ W, n1 ≤ runeCap W a) := hcap1
  have HC2 : Hid (∀ W, n2 ≤ runeCap W b) := hcap2
  clear hcap1 hcap2
  by_cases hz : n1 = 0 ∧ n2 = 0
  · have z1 : ((n1 : Int) == 0) = true := by simp; omega
    have z2 : ((n2 : Int) == 0) = true := by simp; omega
    go_enter Try.func42, Try.ntmps42
    go_wp2
    go_ret
    have hd0 := dn_le a b
    have hm0 : ln a b = 0 := by rw [HLN.out]; omega
    rw [hm0]
    exact ⟨⟨0, ⟨by omega, by omega, fun n hn => by omega, .inl (by omega)⟩, by rw [matchV_zero]; rfl⟩, (((Below.refl _ w).alloc (Nat.le_refl _) _).alloc (by simp) _).drew.drew⟩
  · have hB0 : Below w.heap.size w ((w.alloc (runeBlock w a)).alloc (runeBlock (w.alloc (runeBlock w a)).drew b)) := ((Below.refl _ w).alloc (Nat.le_refl _) _).alloc (by simp) _
    have hX0 : Rin ((w.alloc (runeBlock w a)).alloc (runeBlock (w.alloc (runeBlock w a)).drew b)) w.heap.size 0 n1 (rn a) := by rw [HN1.out]; exact (two_conv w _ _ a b).1
    have hY0 : Rin ((w.alloc (runeBlock w a)).alloc (runeBlock (w.alloc (runeBlock w a)).drew b)) (w.heap.size + 1) 0 n2 (rn b) := by rw [HN2.out]; exact (two_conv w _ _ a b).2
    have hS0 : w.heap.size + 1 < ((w.alloc (runeBlock w a)).alloc (runeBlock (w.alloc (runeBlock w a)).drew b)).heap.size := by simp
    go_enter Try.func42, Try.ntmps42
    go_upto_region 3 with fail
    go_cut [32] from 27 to 31 (fun s32 wx => s32 = .bool false ∧ Below w.heap.size w wx ∧ Rin wx w.heap.size 0 n1 (rn a) ∧ Rin wx (w.heap.size + 1) 0 n2 (rn b) ∧ w.heap.size + 1 < wx.heap.size)
    case first =>
      by_cases z1 : n1 = 0
      · have e1 : ((n1 : Int) == 0) = true := by simp; omega
        have e2 : ((n2 : Int) == 0) = false := by simp; omega
        clear z1 hz
        go_wp2
        go_meet
        exact ⟨rfl, hB0.drew.drew, hX0, hY0, hS0⟩
      · have e1 : ((n1 : Int) == 0) = false := by simp; omega
        clear z1 hz
        go_wp2
        go_meet
        exact ⟨rfl, hB0.drew.drew, hX0, hY0, hS0⟩
    case rest =>
      clear hB0 hX0 hY0 hS0 hca hcb
      obtain ⟨rfl, hB, hX, hY, hS⟩ := hcut
      go_upto_if 34 with fail
      go_cut [2] from 35 to 35 (fun s2 wx => ∃ g : Nat, s2 = .pointer (some ⟨g, 0, none⟩) ∧ Par8 wx g 0 bt ∧ Below w.heap.size w wx ∧ Rin wx w.heap.size 0 n1 (rn a) ∧ Rin wx (w.heap.size + 1) 0 n2 (rn b) ∧ w.heap.size + 1 < wx.heap.size)
      case first =>
        rcases hg with ⟨rfl, rfl⟩ | ⟨g, rfl, hg⟩
        · go_wp2
          go_meet
          refine ⟨_, rfl, ⟨by simp, by simp, by simp, by simp, by simp, by simp [C01], by simp [C07]⟩, hB.alloc hB.size _, ?_, ?_, ?_⟩
          · exact Rin.below hX (B := wc.heap.size) (by omega) ((Below.refl _ _).alloc (Nat.le_refl _) _)
          · exact Rin.below hY (B := wc.heap.size) (by omega) ((Below.refl _ _).alloc (Nat.le_refl _) _)
          · simp; omega
        · go_wp2
          go_meet
          exact ⟨g, rfl, hg.below hB, hB, hX, hY, hS⟩
      case rest =>
        clear hB hX hY hS hg
        obtain ⟨g, rfl, ⟨p0, p1, p2, p4, p5, p6, p7⟩, hB, hX, hY, hS⟩ := hcut
        go_wp2_with fail
        go_region
        go_upto_if 51 with fail
        have hB1 := hB.drew
        have hX1 := hX.drew
        have hY1 := hY.drew
        have hS1 : w.heap.size + 1 < wc.drew.heap.size := hS
        obtain ⟨m, hm⟩ : ∃ m, m = max n1 n2 := ⟨_, rfl⟩
        obtain ⟨lo, hlo⟩ : ∃ lo, lo = min n1 n2 := ⟨_, rfl⟩
        rw [← hm] at HLN
        go_cut [9, 10, 11, 12] from 52 to 55 (fun s9 s10 s11 s12 wx => s9 = .int .i64 lo ∧ s10 = .int .i64 m ∧ s11 = .int .i64 1 ∧ s12 = .int .i64 1 ∧ wc.drew = wx)
        case first =>
          by_cases hgt : n2 < n1
          · obtain rfl : m = n1 := by omega
            obtain rfl : lo = n2 := by omega
            clear hm hlo
            go_wp2
            go_meet
            exact ⟨rfl, rfl, rfl, rfl, rfl⟩
          · obtain rfl : m = n2 := by omega
            obtain rfl : lo = n1 := by omega
            clear hm hlo
            go_wp2
            go_meet
            exact ⟨rfl, rfl, rfl, rfl, rfl⟩
        case rest =>
          obtain ⟨rfl, rfl, rfl, rfl, rfl⟩ := hcut
          have hm20 : m ≤ 20 := by omega
          have hm1 : 1 ≤ m := by omega
          have hlom : lo ≤ m := by omega
          have hmd : (lo : Int) + ((m : Int) - (lo : Int)) = (m : Int) := by omega
          clear hm hlo hz
          have hgl := World.block_lt_of_cell? wc _ p0
          have la60 : n1 ≤ 60 := by omega
          have lb60 : n2 ≤ 60 := by omega
          have hc1 := HC1.out w
          have hc2 := HC2.out (w.alloc (runeBlock w a)).drew
          go_wp2_with fail
          go_region_held3 (fun w' => w'.cell? ⟨g, 0, none⟩ = some (.int .i64 1) ∧ w'.cell? ⟨g, 1, none⟩ = some (.int .i64 1) ∧ w'.cell? ⟨g, 2, none⟩ = some (.int .i64 1))
            (first | go_keep | exact ⟨(hb.cell (p := ⟨g, 0, none⟩) (by exact hgl)).trans p0, (hb.cell (p := ⟨g, 1, none⟩) (by exact hgl)).trans p1, (hb.cell (p := ⟨g, 2, none⟩) (by exact hgl)).trans p2⟩)
            (first | (go_at_call 35; refine (calc_any _ _ _ _ (rn a) _ _ _ _ (rn b) 0 1 1 1 _ la60 lb60 hc1 hc2 (by exact hX1) (by exact hY1) (.inl rfl) (by omega) (by omega) (by omega)).mono ?_; rintro e w' ⟨⟨P, Q, rfl, HP, _⟩, hb⟩))
          have hbw : Below w.heap.size w w' := hB1.drew.trans (hb.mono (by exact hB1.size))
          have hed : ed (rn a) (rn b) 1 1 1 n1 n2 = (dn a b : Int) := by rw [HN1.out, HN2.out]; exact dn_eq a b
          have hdm : dn a b ≤ m := by rw [← HLN.out]; exact dn_le a b
          have q0 : w'.cell? ⟨g, 4, none⟩ = some (.float .f64 0) := (hb.cell (p := ⟨g, 4, none⟩) (by exact hgl)).trans p4
          have q1 : w'.cell? ⟨g, 5, none⟩ = some (.int .i64 4) := (hb.cell (p := ⟨g, 5, none⟩) (by exact hgl)).trans p5
          have q2 : w'.cell? ⟨g, 6, none⟩ = some (.float .f64 4591870180066957722) := (hb.cell (p := ⟨g, 6, none⟩) (by exact hgl)).trans p6
          have q3 : w'.cell? ⟨g, 7, none⟩ = some (.float .f64 bt) := (hb.cell (p := ⟨g, 7, none⟩) (by exact hgl)).trans p7
          rw [HLN.out] at HB
          obtain ⟨d, hd⟩ : ∃ d, d = dn a b := ⟨_, rfl⟩
          rw [← hd] at HB hed hdm
          have HDN : Hid (d = dn a b) := hd
          obtain ⟨f1, f2, _, _, f5⟩ := like_facts d m hm20 hdm
          obtain ⟨f3, f4⟩ := f1 (by omega)
          have r1 := run_fop f3 36
          have r2 := run_fop f4 36
          obtain ⟨v, hv⟩ : ∃ v, v = likeV d m := ⟨_, rfl⟩
          have hv2 : v = fop .sub ONE (fop .quo (fl d) (fl m)) := by rw [hv]; unfold likeV; rw [if_neg (by omega)]
          rw [← hv2] at r2
          rw [← hv] at HB f5
          have HV : Hid (v = likeV d m) := hv
          unfold fl at r1
          unfold ONE fl at r2
          unfold ford at f5
          have hPl := HP.1
          clear hd hv hv2 f1 f2 f3 f4 hb hX1 hY1 p0 p1 p2 p4 p5 p6 p7 hmd hlom hc1 hc2
          obtain ⟨c1, hc1⟩ : ∃ c, (FloatKind.f64.format.order v bt == some .gt) = c := ⟨_, rfl⟩
          obtain ⟨c2, hc2⟩ : ∃ c, (FloatKind.f64.format.order v bt == some .eq) = c := ⟨_, rfl⟩
          obtain ⟨c3, hc3⟩ : ∃ c, (FloatKind.f64.format.order v 4607182418800017408 == some .lt) = c := ⟨_, rfl⟩
          have HM : Hid (matchV bt d m P = if ((c1 || c2) && c3) = true then bonusV v (min P 4) else v) := by
            unfold matchV near2 ford ONE
            rw [← HV.out, hc1, hc2, hc3]; rfl
          by_cases hbon : ((c1 || c2) && c3) = true
          · have hok := HB (by unfold near2 ford ONE; rw [hc1, hc2, hc3]; exact hbon)
            clear HB
            by_cases hP4 : 4 < P
            · have h4 := hok 4 (by omega)
              have hfin : matchV bt d m P = bonusV v 4 := by rw [HM.out, if_pos hbon, show min P 4 = 4 from by omega]
              have HF : Hid (matchV bt d m P = bonusV v 4) := hfin
              unfold bonusOk at h4
              simp only [Bool.and_eq_true, Bool.not_eq_true'] at h4
              obtain ⟨⟨⟨⟨k1, k2⟩, k3⟩, k4⟩, k5⟩ := h4
              have s1 := run_fop k1 36
              have s2 := run_fop k2 36
              have s3 := run_fop k3 36
              have s4 := run_fop k4 36
              unfold bonusV ford at k5
              simp only [fl, C01, ONE, show ((4 : Nat) : Int) = 4 from rfl] at k5 s1 s2 s3 s4
              clear hfin hok k1 k2 k3 k4
              cases c1 <;> cases c2 <;> cases c3 <;> simp at hbon
              all_goals
                clear hbon
                go_wp2
                go_ret
                exact ⟨⟨P, HP, ret_float (by rw [← HDN.out, HLN.out, HF.out]; rfl)⟩, hbw⟩
            · have h4 := hok P (by omega)
              have hfin : matchV bt d m P = bonusV v P := by rw [HM.out, if_pos hbon, show min P 4 = P from by omega]
              have HF : Hid (matchV bt d m P = bonusV v P) := hfin
              unfold bonusOk at h4
              simp only [Bool.and_eq_true, Bool.not_eq_true'] at h4
              obtain ⟨⟨⟨⟨k1, k2⟩, k3⟩, k4⟩, k5⟩ := h4
              have s1 := run_fop k1 36
              have s2 := run_fop k2 36
              have s3 := run_fop k3 36
              have s4 := run_fop k4 36
              unfold bonusV ford at k5
              simp only [fl, C01, ONE] at k5 s1 s2 s3 s4
              clear hfin hok k1 k2 k3 k4
              cases c1 <;> cases c2 <;> cases c3 <;> simp at hbon
              all_goals
                clear hbon
                go_wp2
                go_ret
                exact ⟨⟨P, HP, ret_float (by rw [← HDN.out, HLN.out, HF.out]; rfl)⟩, hbw⟩
          · have hfin : matchV bt d m P = v := by rw [HM.out, if_neg hbon]
            have HF : Hid (matchV bt d m P = v) := hfin
            clear hfin HB
            cases c1 <;> cases c2 <;> cases c3 <;> simp at hbon
            all_goals
              clear hbon
              go_wp2
              go_ret
              exact ⟨⟨P, HP, ret_float (by rw [← HDN.out, HLN.out, HF.out])⟩, hbw⟩
end Go.Proofs.Ytmphoafjeojodaa
