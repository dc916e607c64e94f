/- levenshtein.Calculate where the most asked is one less than what lies between the common beginning and end -/
import Derived.Test.YtmphoafjeojodaaK
import Derived.Test.YtmphoafjeojodaaBd
namespace Go.Proofs.Ytmphoafjeojodaa
open Go.RowKit

/-- the most is one less than what lies between the common beginning and end, and the distance is at most that -/
def Tight (x y : Nat → Int) (l1 l2 : Nat) (M : Nat) (p q o : Int) : Prop := p = 1 ∧ q = 1 ∧ o = 1 ∧ 0 < M ∧ M ≤ 60 ∧ ed x y 1 1 1 l1 l2 ≤ M ∧
  ∀ P Q : Nat, IsPre x y l1 l2 P → IsSuf (fun n => x (P + n)) (fun n => y (P + n)) (l1 - P) (l2 - P) Q → l2 - P - Q = M + 1 ∧ l1 - P - Q ≤ M + 1

/-- two rows of letters, the longer one ahead; what turning one into the other costs -/
def SwpB (w : World) (D : Int) (M : Nat) (s0 s1 s3 s5 s15 s16 : Value) : Prop := ∃ (bu ou nu cu bv ov nv cv : Nat) (u v : Nat → Int),
  s0 = .slice (some ⟨bu, ou, none⟩) nu cu ∧ s1 = .slice (some ⟨bv, ov, none⟩) nv cv ∧ s3 = .int .i64 1 ∧ s5 = .int .i64 1 ∧ s15 = .int .i64 nu ∧ s16 = .int .i64 nv ∧
  Rin w bu ou nu u ∧ Rin w bv ov nv v ∧ bu < w.heap.size ∧ bv < w.heap.size ∧ 1 ≤ nv ∧ nv ≤ nu ∧ nu ≤ M + 1 ∧ M + 1 ≤ nu ∧ D = ed v u 1 1 1 nv nu ∧ D ≤ M ∧ v (nv - 1) ≠ u (nu - 1)

/-- the first numbers of the row count up, the rest is 0 -/
def Fill0 (k : Nat) (f : Nat → Int) : Prop := (∀ j, j < k → f j = (j : Int)) ∧ ∀ j, k ≤ j → f j = 0
theorem Fill0.one : Fill0 1 (fun _ => 0) := ⟨fun j hj => by obtain rfl : j = 0 := by omega
                                                            rfl, fun _ _ => rfl⟩
theorem Fill0.snoc {k : Nat} {f : Nat → Int} (h : Fill0 k f) : Fill0 (k + 1) (fun j => if j = k then (k : Int) else f j) := by
  refine ⟨fun j hj => ?_, fun j hj => ?_⟩
  · show (if j = k then _ else _) = _
    by_cases e : j = k
    · rw [if_pos e, e]
    · rw [if_neg e]; exact h.1 j (by omega)
  · show (if j = k then _ else _) = _
    rw [if_neg (by omega)]; exact h.2 j (by omega)

theorem suf_last {x y : Nat → Int} {n1 n2 Q a b : Nat} (h : IsSuf x y n1 n2 Q) (ha : a + Q = n1) (hb : b + Q = n2) (ha0 : a ≠ 0) (hb0 : b ≠ 0) : x (a - 1) ≠ y (b - 1) := by
  have h4 := h.2.2.2
  rcases h4 with h4 | h4 | h4
  · omega
  · omega
  · rw [show n1 - 1 - Q = a - 1 from by omega, show n2 - 1 - Q = b - 1 from by omega] at h4
    exact h4

set_option maxRecDepth 100000 in
set_option maxHeartbeats 3200000 in
theorem calc_band (bx ox l1 c1 : Nat) (x : Nat → Int) (b_y oy l2 c2 : Nat) (y : Nat → Int) (M : Nat) (p q o : Int) (w : World) (h1 : l1 ≤ 60) (h2 : l2 ≤ 60) (hc1 : l1 ≤ c1) (hc2 : l2 ≤ c2)
    (hx : Rin w bx ox l1 x) (hy : Rin w b_y oy l2 y) (hm : Tight x y l1 l2 M p q o) (hp : 0 ≤ p ∧ p ≤ 5) (hq : 0 ≤ q ∧ q ≤ 5) (ho : 0 ≤ o ∧ o ≤ 5) :
    Calls Try.prog 35 #[.slice (some ⟨bx, ox, none⟩) l1 c1, .slice (some ⟨b_y, oy, none⟩) l2 c2, .int .i64 M, .int .i64 p, .int .i64 q, .int .i64 o] w fun e w' =>
      Told x y p q o l1 l2 e ∧ Below w.heap.size w w' := by
  go_enter Try.func35, Try.ntmps35
  go_upto_block 0 with fail
  have hxl : 0 < l1 → bx < w.heap.size := fun h => hx.lt h
  have hyl : 0 < l2 → b_y < w.heap.size := fun h => hy.lt h
  go_cut [13] (fun s wx => ∃ P : Nat, s = .int .i64 P ∧ IsPre x y l1 l2 P ∧ Below w.heap.size w wx)
  case first =>
    go_wp2_with fail
    go_loopw [13] (fun s wr => ∃ P : Nat, P ≤ l1 ∧ P ≤ l2 ∧ s = .int .i64 P ∧ Same x y P ∧ Below w.heap.size w wr) (fun s _ => l1 - (intOf s).toNat)
    case atStart => exact ⟨0, by omega, by omega, rfl, fun n hn => by omega, Below.refl _ _⟩
    case round =>
      obtain ⟨P, hP1, hP2, rfl, HS, hnx⟩ := hrel
      rcases (show (P < l1 ∧ P < l2) ∨ ¬ P < l1 ∨ (P < l1 ∧ ¬ P < l2) from by omega) with ⟨g1, g2⟩ | g1 | ⟨g1, g2⟩
      · have hcx := (hx.below (hxl (by omega)) hnx) P g1
        have hcy := (hy.below (hyl (by omega)) hnx) P g2
        go_wp2
        go_region
        all_goals go_wp2
        · go_meet
          have e : (x P != y P) = true := by assumption
          exact ⟨P, rfl, ⟨hP1, hP2, HS, .inr (.inr (by simpa using e))⟩, hnx.drew⟩
        · go_roundw
          have e : (x P != y P) = false := by assumption
          case rel => exact ⟨P + 1, by omega, by omega, by go_num, HS.snoc (by simpa using e), hnx.drew⟩
          case measure => simp [intOf]; omega
      · go_wp2
        go_meet
        exact ⟨P, rfl, ⟨hP1, hP2, HS, by omega⟩, hnx⟩
      · go_wp2
        go_meet
        exact ⟨P, rfl, ⟨hP1, hP2, HS, by omega⟩, hnx⟩
  case rest =>
    obtain ⟨P, rfl, HP, hB⟩ := hcut
    have hP1 := HP.1
    have hP2 := HP.2.1
    obtain ⟨ox1, hox1, hs1⟩ := slice_from bx ox l1 c1 P hP1 hc1
    obtain ⟨oy1, hoy1, hs2⟩ := slice_from b_y oy l2 c2 P hP2 hc2
    obtain ⟨n1, hn1⟩ : ∃ n1, n1 = l1 - P := ⟨_, rfl⟩
    obtain ⟨n2, hn2⟩ : ∃ n2, n2 = l2 - P := ⟨_, rfl⟩
    obtain ⟨d1, hd1⟩ : ∃ d1, d1 = c1 - P := ⟨_, rfl⟩
    obtain ⟨d2, hd2⟩ : ∃ d2, d2 = c2 - P := ⟨_, rfl⟩
    rw [← hn1, ← hd1] at hs1
    rw [← hn2, ← hd2] at hs2
    have hm1 : (l1 : Int) - (P : Int) = (n1 : Int) := by omega
    have hm2 : (l2 : Int) - (P : Int) = (n2 : Int) := by omega
    have hx1 : Rin w bx ox1 n1 (fun n => x (P + n)) := fun i hi => by
      have := hx (P + i) (by omega)
      rw [hox1 (by omega), Nat.add_assoc]; exact this
    have hy1 : Rin w b_y oy1 n2 (fun n => y (P + n)) := fun i hi => by
      have := hy (P + i) (by omega)
      rw [hoy1 (by omega), Nat.add_assoc]; exact this
    have HN1 : Hid (n1 = l1 - P) := hn1
    have HN2 : Hid (n2 = l2 - P) := hn2
    have HD1 : Hid (d1 = c1 - P) := hd1
    have HD2 : Hid (d2 = c2 - P) := hd2
    have g1 : n1 ≤ 60 := by omega
    have g2 : n2 ≤ 60 := by omega
    have g3 : n1 ≤ d1 := by omega
    have g4 : n2 ≤ d2 := by omega
    have g5 : 0 < n1 → bx < w.heap.size := fun h => hxl (by omega)
    have g6 : 0 < n2 → b_y < w.heap.size := fun h => hyl (by omega)
    clear hn1 hn2 hd1 hd2 hox1 hoy1 hxl hyl hc1 hc2
    go_wp2
    go_region
    clear hs1 hs2
    go_upto_block 2 with fail
    go_cut [0, 1, 14, 15, 16] (fun s0 s1 s14 s15 s16 wx => ∃ Q a b : Nat, a + Q = n1 ∧ b + Q = n2 ∧ s14 = .int .i64 Q ∧ s15 = .int .i64 a ∧ s16 = .int .i64 b ∧
      IsSuf (fun n => x (P + n)) (fun n => y (P + n)) n1 n2 Q ∧ Below w.heap.size w wx ∧ (a = 0 ∨ b = 0 ∨ (s0 = .slice (some ⟨bx, ox1, none⟩) a d1 ∧ s1 = .slice (some ⟨b_y, oy1, none⟩) b d2)))
    case first =>
      have hB1 := hB.drew
      go_wp2_with fail
      go_loopw [0, 1, 14, 15, 16] (fun s0 s1 s14 s15 s16 wr => ∃ Q a b : Nat, a + Q = n1 ∧ b + Q = n2 ∧ s0 = .slice (some ⟨bx, ox1, none⟩) n1 d1 ∧ s1 = .slice (some ⟨b_y, oy1, none⟩) n2 d2 ∧ s14 = .int .i64 Q ∧ s15 = .int .i64 a ∧ s16 = .int .i64 b ∧
        SameEnd (fun n => x (P + n)) (fun n => y (P + n)) n1 n2 Q ∧ Below w.heap.size w wr) (fun _ _ _ s _ _ => (intOf s).toNat)
      case atStart => exact ⟨0, n1, n2, rfl, rfl, rfl, rfl, rfl, rfl, rfl, fun n hn => by omega, hB1⟩
      case round =>
        clear hB hB1
        obtain ⟨Q, a, b, ha, hb, rfl, rfl, rfl, rfl, rfl, HS, hnx⟩ := hrel
        have HA : Hid (a + Q = n1) := ha
        have HB : Hid (b + Q = n2) := hb
        have ga : a ≤ n1 := by omega
        have gb : b ≤ n2 := by omega
        have gq : Q ≤ 60 := by omega
        clear ha hb
        rcases (show (0 < a ∧ 0 < b) ∨ ¬ 0 < a ∨ (0 < a ∧ ¬ 0 < b) from by omega) with ⟨h0a, h0b⟩ | h0a | ⟨h0a, h0b⟩
        · obtain ⟨a1, ha1⟩ : ∃ a1 : Nat, (a : Int) - 1 = (a1 : Int) := ⟨a - 1, by omega⟩
          obtain ⟨b1, hb1⟩ : ∃ b1 : Nat, (b : Int) - 1 = (b1 : Int) := ⟨b - 1, by omega⟩
          have hcx : wr.cell? ⟨bx, ox1 + a1, none⟩ = some (.int .i32 (x (P + a1))) := (hx1.below (g5 (by omega)) hnx) a1 (by omega)
          have hcy : wr.cell? ⟨b_y, oy1 + b1, none⟩ = some (.int .i32 (y (P + b1))) := (hy1.below (g6 (by omega)) hnx) b1 (by omega)
          have hlx : (a1 : Int) < (n1 : Int) := by omega
          have hly : (b1 : Int) < (n2 : Int) := by omega
          have hst1 := slice_to bx ox1 n1 d1 a (by omega)
          have hst2 := slice_to b_y oy1 n2 d2 b (by omega)
          go_wp2
          go_region
          go_wp2
          · go_region
            go_wp2
            go_meet
            have e : (x (P + a1) != y (P + b1)) = true := by assumption
            exact ⟨Q, a, b, HA.out, HB.out, rfl, rfl, rfl, HS.suf HA.out HB.out (.inr (.inr ⟨a1, b1, ha1, hb1, by simpa using e⟩)), hnx.drew.drew, .inr (.inr ⟨rfl, rfl⟩)⟩
          · go_roundw
            have e : (x (P + a1) != y (P + b1)) = false := by assumption
            case rel => exact ⟨Q + 1, a1, b1, by have := HA.out; omega, by have := HB.out; omega, rfl, rfl, by go_num, rfl, rfl, HS.next HA.out HB.out ha1 hb1 (by simpa using e), hnx.drew⟩
            case measure => simp [intOf]; omega
        · go_wp2
          go_meet
          exact ⟨Q, a, b, HA.out, HB.out, rfl, rfl, rfl, HS.suf HA.out HB.out (.inl (by omega)), hnx, .inl (by omega)⟩
        · go_wp2
          go_meet
          exact ⟨Q, a, b, HA.out, HB.out, rfl, rfl, rfl, HS.suf HA.out HB.out (.inr (.inl (by omega))), hnx, .inr (.inl (by omega))⟩
    case rest =>
      clear hB
      obtain ⟨Q, a, b, ha, hb, rfl, rfl, rfl, HQ, hB, hsl⟩ := hcut
      have HA : Hid (a + Q = n1) := ha
      have HB : Hid (b + Q = n2) := hb
      have ga : a ≤ n1 := by omega
      have gb : b ≤ n2 := by omega
      have gq : Q ≤ 60 := by omega
      have hroom := hm
      clear hm ha hb
      by_cases ha0 : a = 0
      · subst ha0
        have hbp := mul_bound (k := (b : Int)) (N := 100) (by omega) (by omega) hp
        have HT := told_of (d := (b : Int) * p) hp.1 hq.1 ho.1 HP HN1.out HN2.out HQ HA.out HB.out (by rw [ed_0])
        go_wp2
        go_ret3
        exact ⟨HT, hB⟩
      · by_cases hb0 : b = 0
        · subst hb0
          have hbp := mul_bound (k := (a : Int)) (N := 100) (by omega) (by omega) ho
          have HT := told_of (d := (a : Int) * o) hp.1 hq.1 ho.1 HP HN1.out HN2.out HQ HA.out HB.out (by rw [ed_r0])
          go_wp2
          go_ret3
          exact ⟨HT, hB⟩
        · obtain ⟨rfl, rfl⟩ : _ ∧ _ := by
            rcases hsl with h | h | h
            · exact absurd h ha0
            · exact absurd h hb0
            · exact h
          have g5b := g5 (by omega)
          have g6b := g6 (by omega)
          have hx2 : Rin w bx ox1 a (fun n => x (P + n)) := fun i hi => hx1 i (by omega)
          have hy2 : Rin w b_y oy1 b (fun n => y (P + n)) := fun i hi => hy1 i (by omega)
          obtain ⟨rfl, rfl, rfl, hM0, hM1, hM2, hM3⟩ := hroom
          obtain ⟨hbM, haM⟩ : b = M + 1 ∧ a ≤ M + 1 := by
            have := hM3 P Q HP (by rw [← HN1.out, ← HN2.out]; exact HQ)
            have k1 := HB.out
            have k2 := HN2.out
            have k3 := HA.out
            have k4 := HN1.out
            omega
          have hlast := suf_last HQ HA.out HB.out ha0 hb0
          have hD : ed (fun n => x (P + n)) (fun n => y (P + n)) 1 1 1 a b ≤ M := by
            have h1 := HN1.out
            have h2 := HN2.out
            have := ed_mid x y 1 1 1 (by omega) (by omega) (by omega) l1 l2 P Q HP (by rw [← h1, ← h2]; exact HQ)
            have k1 := HA.out
            have k2 := HB.out
            rw [show l1 - P - Q = a from by omega, show l2 - P - Q = b from by omega] at this
            omega
          have hb1 : b ≤ M + 1 := by omega
          have hb2 : M + 1 ≤ b := by omega
          clear hbM hM3 hM2 hx1 hy1 hx hy hsl g5 g6
          go_upto_if 132 with fail
          go_cut [0, 1, 3, 5, 15, 16] from 133 to 138 (fun s0 s1 s3 s5 s15 s16 wx => SwpB w (ed (fun n => x (P + n)) (fun n => y (P + n)) 1 1 1 a b) M s0 s1 s3 s5 s15 s16 ∧ Below w.heap.size w wx)
          case first => as_aux_lemma =>
            by_cases hgt : a < b
            · go_wp2
              go_meet
              exact ⟨⟨b_y, oy1, b, d2, bx, ox1, a, d1, _, _, rfl, rfl, rfl, rfl, rfl, rfl, hy2, hx2, g6b, g5b, by omega, by omega, hb1, hb2, rfl, hD, hlast⟩, hB⟩
            · obtain hab : a = b := by omega
              go_wp2
              go_meet
              exact ⟨⟨bx, ox1, a, d1, b_y, oy1, b, d2, _, _, rfl, rfl, rfl, rfl, rfl, rfl, hx2, hy2, g5b, g6b, by omega, by omega, by omega, by omega, ed_swap _ _ _ _ _ _ _, hD, fun e => hlast e.symm⟩, hB⟩
          case rest =>
            clear hB
            obtain ⟨⟨bu, ou, nu, cu, bv, ov, nv, cv, u, v, rfl, rfl, rfl, rfl, rfl, rfl, hu, hv, hbu, hbv, hnv1, hnv, hnu1, hnu2, HD, hDm, hne⟩, hB⟩ := hcut
            have HT := told_of (p := 1) (q := 1) (o := 1) (by omega) (by omega) (by omega) HP HN1.out HN2.out HQ HA.out HB.out rfl
            rw [HD] at HT hDm
            have HL := live_of v u M nu nv (by omega) (by omega) hne hDm
            clear HD hx2 hy2 g5b g6b ga gb ha0 hb0 HP HQ HN1 HN2 HA HB HD1 HD2 hm1 hm2 h1 h2 hP1 hP2 g1 g2 g3 g4 hne hlast hD hb1 hb2 haM hp hq ho
            obtain ⟨i0, hti, hz0, hz1, hz2⟩ := info_parts info3
            have hsz := hB.size
            go_wp2_with (at_make; refine wpList_make_full _ rfl _ _ 49 rfl wc.heap.size 3 i0 (.int .i64 0) 1 Try.underlying49 hti hz0 hz1 _ _ _ _ (nu + 1) rfl rfl (by omega) (by omega) ?b2 ?b3 ?b4 ?_)
            case b2 => rw [hz2]; omega
            case b3 => unfold maxLen; omega
            case b4 => exact Nat.le_refl _
            intro w0 hown0 hgrow0
            clear hti hz0 hz1 hz2 i0
            have hr0 := irow_of_own hown0
            have hB0 := hB.grown hgrow0 hsz (fun k h => by cases h)
            clear hgrow0 hown0 hB
            generalize wc.heap.size = H at hr0 hB0 hsz ⊢
            go_wp2
            go_loopw [17, 18, 23] (fun s17 s18 s23 wr => ∃ k : Nat, 1 ≤ k ∧ k ≤ nu ∧ s17 = .int .i64 k ∧ s18 = .int .i64 k ∧ s23 = .int .i64 k ∧ (∃ f, Irow wr H (nu + 1) f ∧ Fill0 k f) ∧ Below w.heap.size w wr) (fun s _ _ _ => nu + 1 - (intOf s).toNat)
            case atStart => exact ⟨1, by omega, by omega, rfl, rfl, rfl, ⟨_, hr0, Fill0.one⟩, hB0⟩
            case round =>
              clear hr0 hB0
              obtain ⟨k, hk1, hk, rfl, rfl, rfl, ⟨f, hf, HF⟩, hnx⟩ := hrel
              by_cases hlt : k ≤ M
              · as_aux_lemma =>
                have hc := hf.1 k (by omega)
                have hfr := hf.2 k (by omega)
                go_wp2
                go_roundw
                case rel => exact ⟨k + 1, by omega, by omega, by go_num, by go_num, by go_num, ⟨_, hf.set k _ (fun j => rfl), HF.snoc⟩, hnx.setCell (p := ⟨H, k, none⟩) (by omega) _⟩
                case measure => simp [intOf]; omega
              · have HU : Band v u M nu 0 0 M f := Band.start (by omega) (by omega) (Int.le_refl _) (by omega) (fun j hj => HF.1 j (by omega)) (fun j h1 h2 => HF.2 j (by omega))
                clear HF
                go_wp2
                go_loopw [22, 23, 24] (fun s22 s23 s24 wr => ∃ X o dl r : Nat, X ≤ nv ∧ o + dl = r + 1 ∧ s22 = .int .i64 o ∧ s23 = .int .i64 dl ∧ s24 = .int .i64 X ∧ (∃ f, Irow wr H (nu + 1) f ∧ Band v u M nu X o r f) ∧ Below w.heap.size w wr) (fun _ _ s _ => nv - (intOf s).toNat)
                case atStart => exact ⟨0, 0, k, M, by omega, by omega, rfl, rfl, rfl, ⟨_, hf, HU⟩, hnx⟩
                case round =>
                  clear HU hf hnx hlt hk hk1
                  obtain ⟨X, o, dl, r, hX, hdl, rfl, rfl, rfl, ⟨g, hg, HG⟩, hnx⟩ := hrel
                  have hor := HG.le
                  have hrn := HG.top
                  have HDL : Hid (o + dl = r + 1) := hdl
                  have hd1 : 1 ≤ dl := by omega
                  have hd2 : dl ≤ r + 1 := by omega
                  clear hdl
                  by_cases hXl : X < nv
                  · have hcv : wr.cell? ⟨bv, ov + X, none⟩ = some (.int .i32 (v X)) := (hv.below hbv hnx) X hXl
                    have HE := HG.enter
                    have hc0 := hg.1 o (by omega)
                    have hf0 := hg.2 o (by omega)
                    have hb0 := HG.bnd o (by omega)
                    have hg1 := hg.set o (g o + 1) (fun j => rfl)
                    have hnx1 := hnx.setCell (p := ⟨H, o, none⟩) (by omega) (.int .i64 (g o + 1))
                    go_upto_region 41 with fail
                    go_wp2
                    go_region
                    go_upto_block 8 with fail
                    go_cut [18, 19, 22, 23] from 188 to 236 (fun s18 _ s22 s23 wx => ∃ (o2 dl2 : Nat) (z : Int), o2 + dl2 = r + 1 ∧ 1 ≤ dl2 ∧ s18 = .int .i64 z ∧ s22 = .int .i64 o2 ∧ s23 = .int .i64 dl2 ∧ (∃ f, Irow wx H (nu + 1) f ∧ Mid v u M nu X o2 r o2 z f) ∧ Below w.heap.size w wx)
                    case first => as_aux_lemma =>
                      have hg1' := hg1.drew
                      have hnx1' := hnx1.drew
                      clear hc0 hf0 hb0 hg1 hnx1 hg HG hnx
                      go_wp2_with fail
                      go_loopw [18, 22, 23] (fun s18 s22 s23 wr => ∃ (o2 dl2 : Nat) (z : Int), o2 + dl2 = r + 1 ∧ 1 ≤ dl2 ∧ s18 = .int .i64 z ∧ s22 = .int .i64 o2 ∧ s23 = .int .i64 dl2 ∧ (∃ f, Irow wr H (nu + 1) f ∧ Mid v u M nu X o2 r o2 z f) ∧ Below w.heap.size w wr) (fun _ s _ _ => nu - (intOf s).toNat)
                      case atStart => exact ⟨o, dl, _, HDL.out, hd1, rfl, rfl, rfl, ⟨_, hg1', HE⟩, hnx1'⟩
                      case round =>
                        clear hg1' hnx1' HE hd1 hd2 HDL hor
                        obtain ⟨o2, dl2, z, hdl, hd1, rfl, rfl, rfl, ⟨f, hf, HM⟩, hnx⟩ := hrel
                        have hor := HM.ler
                        have hd2 : dl2 ≤ r + 1 := by omega
                        have HDL : Hid (o2 + dl2 = r + 1) := hdl
                        clear hdl hcv
                        have bz := HM.bdy
                        have bo := HM.bnd o2 (by omega)
                        have hco := hf.1 o2 (by omega)
                        rcases (show (o2 < nu ∧ (M : Int) < f o2) ∨ ¬ o2 < nu ∨ (o2 < nu ∧ ¬ (M : Int) < f o2) from by omega) with ⟨g1, g2⟩ | g1 | ⟨g1, g2⟩
                        · as_aux_lemma =>
                          have hroom := HM.room HL hXl g2
                          obtain ⟨dl3, hdl3⟩ : ∃ dl3 : Nat, (dl2 : Int) - 1 = (dl3 : Int) := ⟨dl2 - 1, by omega⟩
                          have hdl4 : o2 + 1 + dl3 = r + 1 ∧ 1 ≤ dl3 := by have := HDL.out; omega
                          have HDL4 : Hid (o2 + 1 + dl3 = r + 1 ∧ 1 ≤ dl3) := hdl4
                          clear hdl4
                          have hcv : wr.cell? ⟨bv, ov + X, none⟩ = some (.int .i32 (v X)) := (hv.below hbv hnx) X hXl
                          have hcu : wr.cell? ⟨bu, ou + o2, none⟩ = some (.int .i32 (u o2)) := (hu.below hbu hnx) o2 g1
                          have hc1 := hf.1 (o2 + 1) (by omega)
                          have hfr := hf.2 (o2 + 1) (by omega)
                          have b1 := HM.bnd (o2 + 1) (by omega)
                          go_wp2
                          go_region
                          go_wp2
                          all_goals
                            go_roundw
                            case rel =>
                              refine ⟨o2 + 1, dl3, _, HDL4.out.1, HDL4.out.2, rfl, by go_num, rfl, ⟨_, (hf.set (o2 + 1) _ (fun j => rfl)).drew, HM.slide g2 hroom ?_⟩, (hnx.setCell (p := ⟨H, o2 + 1, none⟩) (by omega) _).drew⟩
                              by_cases hxy : v X = u o2
                              · rw [if_pos hxy]
                                first
                                  | omega
                                  | (exfalso; have e : (u o2 != v X) = true := by assumption
                                     simp [hxy] at e)
                              · rw [if_neg hxy]
                                first
                                  | omega
                                  | (exfalso; have e : (u o2 != v X) = false := by assumption
                                     simp at e; exact hxy e.symm)
                            case measure => simp [intOf]; omega
                        · go_wp2
                          go_meet
                          exact ⟨o2, dl2, z, HDL.out, hd1, rfl, rfl, rfl, ⟨_, hf, HM⟩, hnx⟩
                        · go_wp2
                          go_meet
                          exact ⟨o2, dl2, z, HDL.out, hd1, rfl, rfl, rfl, ⟨_, hf, HM⟩, hnx⟩
                    case rest => as_aux_lemma =>
                      clear hc0 hf0 hb0 hg1 hnx1 hg HG hnx hd1 hd2 HDL hor HE hcv
                      obtain ⟨o2, dl2, z, hdl, hd1, rfl, rfl, rfl, ⟨f, hf, HM⟩, hnx⟩ := hcut
                      have hor := HM.ler
                      have hd2 : dl2 ≤ r + 1 := by omega
                      have hlr : (o2 : Int) + (dl2 : Int) - 1 = (r : Int) := by omega
                      have HDL : Hid (o2 + dl2 = r + 1) := hdl
                      clear hdl
                      go_wp2
                      clear hlr
                      go_loopw [17, 18] (fun s17 s18 wr => ∃ (y : Nat) (z : Int), o2 ≤ y ∧ y ≤ r ∧ s17 = .int .i64 y ∧ s18 = .int .i64 z ∧ (∃ f, Irow wr H (nu + 1) f ∧ Mid v u M nu X o2 r y z f) ∧ Below w.heap.size w wr) (fun s _ _ => r - (intOf s).toNat)
                      case atStart => exact ⟨o2, z, by omega, by omega, rfl, rfl, ⟨_, hf, HM⟩, hnx⟩
                      case round =>
                        clear hf HM hnx
                        obtain ⟨y, z, hoy, hyr, rfl, rfl, ⟨f, hf, HM⟩, hnx⟩ := hrel
                        have bz := HM.bdy
                        have hrn := HM.top
                        have hcv : wr.cell? ⟨bv, ov + X, none⟩ = some (.int .i32 (v X)) := (hv.below hbv hnx) X hXl
                        have hc1 := hf.1 y (by omega)
                        have b1 := HM.bnd y (by omega)
                        by_cases hyl : y < r
                        · as_aux_lemma =>
                          have hcu : wr.cell? ⟨bu, ou + y, none⟩ = some (.int .i32 (u y)) := (hu.below hbu hnx) y (by omega)
                          have hfr1 := hf.2 y (by omega)
                          have hc2 := hf.1 (y + 1) (by omega)
                          have hfr := hf.2 (y + 1) (by omega)
                          have b2 := HM.bnd (y + 1) (by omega)
                          go_wp2
                          go_region
                          go_wp2
                          all_goals
                            go_roundw
                            case rel =>
                              refine ⟨y + 1, _, by omega, by omega, by go_num, rfl, ⟨_, (hf.set (y + 1) _ (fun j => rfl)).drew, HM.step hyl ?_⟩, (hnx.setCell (p := ⟨H, y + 1, none⟩) (by omega) _).drew⟩
                              by_cases hxy : v X = u y
                              · rw [if_pos hxy]
                                first
                                  | omega
                                  | (exfalso; have e : (u y != v X) = true := by assumption
                                     simp [hxy] at e)
                              · rw [if_neg hxy]
                                first
                                  | omega
                                  | (exfalso; have e : (u y != v X) = false := by assumption
                                     simp at e; exact hxy e.symm)
                            case measure => simp [intOf]; omega
                        · obtain rfl : y = r := by omega
                          by_cases hyn : y < nu
                          · as_aux_lemma =>
                            have hcu : wr.cell? ⟨bu, ou + y, none⟩ = some (.int .i32 (u y)) := (hu.below hbu hnx) y (by omega)
                            go_wp2
                            go_region
                            go_wp2
                            all_goals as_aux_lemma =>
                              go_loopw [17, 18, 23] (fun s17 s18 s23 wr => ∃ (y dl3 : Nat) (z : Int), o2 + dl3 = y + 1 ∧ 1 ≤ dl3 ∧ s17 = .int .i64 y ∧ s18 = .int .i64 z ∧ s23 = .int .i64 dl3 ∧ (∃ f, Irow wr H (nu + 1) f ∧ Ext v u M nu X o2 y z f) ∧ Below w.heap.size w wr) (fun s _ _ _ => nu - (intOf s).toNat)
                              case atStart =>
                                refine ⟨y, dl2, _, HDL.out, hd1, rfl, rfl, rfl, ⟨_, hf.drew, HM.ext hyn ?_⟩, hnx.drew⟩
                                by_cases hxy : v X = u y
                                · rw [if_pos hxy]
                                  first
                                    | omega
                                    | (exfalso; have e : (u y != v X) = true := by assumption
                                       simp [hxy] at e)
                                · rw [if_neg hxy]
                                  first
                                    | omega
                                    | (exfalso; have e : (u y != v X) = false := by assumption
                                       simp at e; exact hxy e.symm)
                              case round =>
                                clear hcv hc1 b1 bz hcu hf HM hnx hyn hyl hoy hyr hrn hd1 hd2 HDL hor
                                obtain ⟨y2, dl3, z, hdl, hd1, rfl, rfl, rfl, ⟨f, hf, HE⟩, hnx⟩ := hrel
                                have hoy := HE.le
                                have hyn := HE.top
                                have bz := HE.bdy
                                have HDL : Hid (o2 + dl3 = y2 + 1) := hdl
                                have hd2 : dl3 ≤ y2 + 1 := by omega
                                clear hdl
                                rcases (show (z ≤ M ∧ y2 < nu) ∨ ¬ z ≤ M ∨ (z ≤ M ∧ ¬ y2 < nu) from by omega) with ⟨g1, g2⟩ | g1 | ⟨g1, g2⟩
                                · have hc1 := hf.1 (y2 + 1) (by omega)
                                  have hfr := hf.2 (y2 + 1) (by omega)
                                  go_wp2
                                  go_roundw
                                  case rel => exact ⟨y2 + 1, dl3 + 1, z + 1, by have := HDL.out; omega, by omega, by go_num, rfl, by go_num, ⟨_, hf.set (y2 + 1) _ (fun j => rfl), HE.step (by omega) g2 g1⟩, hnx.setCell (p := ⟨H, y2 + 1, none⟩) (by omega) _⟩
                                  case measure => simp [intOf]; omega
                                · have HS := HE.stop (.inl (by omega))
                                  go_wp2
                                  go_roundw
                                  case rel => exact ⟨X + 1, o2, dl3, y2, by omega, HDL.out, rfl, rfl, by go_num, ⟨_, hf, HS⟩, hnx⟩
                                  case measure => simp [intOf]; omega
                                · have HS := HE.stop (.inr (by omega))
                                  go_wp2
                                  go_roundw
                                  case rel => exact ⟨X + 1, o2, dl3, y2, by omega, HDL.out, rfl, rfl, by go_num, ⟨_, hf, HS⟩, hnx⟩
                                  case measure => simp [intOf]; omega
                          · have HS := HM.stop (by omega)
                            go_wp2
                            go_roundw
                            case rel => exact ⟨X + 1, o2, dl2, y, by omega, HDL.out, rfl, rfl, by go_num, ⟨_, hf, HS⟩, hnx⟩
                            case measure => simp [intOf]; omega
                  · obtain rfl : X = nv := by omega
                    obtain ⟨e1, e2⟩ := HG.last hDm
                    subst e1
                    have hlr : (o : Int) + (dl : Int) - 1 = (r : Int) := by have := HDL.out; omega
                    have hc := hg.1 r (by omega)
                    rw [← e2] at HT
                    clear e2
                    go_wp2
                    go_ret3
                    exact ⟨HT, hnx⟩
end Go.Proofs.Ytmphoafjeojodaa
