/- levenshtein.Distance and what calls it -/
import Derived.Test.YtmphoafjeojodaaK
import Derived.Deep.RegionHeld3
import Derived.Deep.CutRange
namespace Go.Proofs.Ytmphoafjeojodaa
open Go.RowKit

/-- a set of parameters lies in the world from ⟨g, 0⟩ on -/
def Par (w : World) (g : Nat) (i s d m : Int) : Prop := w.cell? ⟨g, 0, none⟩ = some (.int .i64 i) ∧ w.cell? ⟨g, 1, none⟩ = some (.int .i64 s) ∧ w.cell? ⟨g, 2, none⟩ = some (.int .i64 d) ∧ w.cell? ⟨g, 3, none⟩ = some (.int .i64 m)

theorem two_conv (w w1 w2 : World) (a b : ByteArray) : Rin ((w.alloc (runeBlock w1 a)).alloc (runeBlock w2 b)) w.heap.size 0 (rl a) (rn a) ∧ Rin ((w.alloc (runeBlock w1 a)).alloc (runeBlock w2 b)) (w.heap.size + 1) 0 (rl b) (rn b) := by
  refine ⟨fun i hi => ?_, fun i hi => ?_⟩
  · rw [Nat.zero_add, World.cell?_alloc_past _ _ _ (by simp)]
    exact runeBlock_cell w1 w a i hi
  · rw [Nat.zero_add]
    have := runeBlock_cell w2 (w.alloc (runeBlock w1 a)) b i hi
    simpa using this

set_option maxRecDepth 100000 in
set_option maxHeartbeats 3200000 in
theorem dist_any (a b : ByteArray) (po : Option Addr) (i s d m : Int) (w : World) (ha : a.size ≤ 60) (hb : b.size ≤ 60)
    (hg : (po = none ∧ i = 1 ∧ s = 1 ∧ d = 1 ∧ m = 0) ∨ ∃ g, po = some ⟨g, 0, none⟩ ∧ Par w g i s d m) (hi : 0 ≤ i ∧ i ≤ 5) (hs : 0 ≤ s ∧ s ≤ 5) (hd : 0 ≤ d ∧ d ≤ 5)
    (hm : Roomy (rn a) (rn b) (rl a) (rl b) m i s d) :
    Calls Try.prog 34 #[.string a, .string b, .pointer po] w fun e w' =>
      e = .returned (.int .i64 (ed (rn a) (rn b) i s d (rl a) (rl b))) ∧ Below w.heap.size w w' := by
  go_enter Try.func34, Try.ntmps34
  go_upto_if 11 with fail
  go_cut [2] from 12 to 12 (fun s2 wx => ∃ g : Nat, s2 = .pointer (some ⟨g, 0, none⟩) ∧ Par wx g i s d m ∧ Below w.heap.size w wx)
  case first =>
    rcases hg with ⟨rfl, rfl, rfl, rfl, rfl⟩ | ⟨g, rfl, hg⟩
    · go_wp2
      go_meet
      exact ⟨_, rfl, ⟨by simp, by simp, by simp, by simp⟩, (Below.refl _ _).alloc (Nat.le_refl _) _⟩
    · go_wp2
      go_meet
      exact ⟨g, rfl, hg, Below.refl _ _⟩
  case rest =>
  clear hg
  obtain ⟨g, rfl, ⟨h0, h1, h2, h3⟩, hB⟩ := hcut
  have hsz := hB.size
  have hca := fun wx => conv_runes a (by omega) wx
  have hcb := fun wx => conv_runes b (by omega) wx
  have la := rl_le a
  have lb := rl_le b
  have hgl := World.block_lt_of_cell? wc _ h0
  go_wp2_with fail
  refine wp_region_held_drew (S := fun w' => w'.cell? ⟨g, 0, none⟩ = some (.int .i64 i) ∧ w'.cell? ⟨g, 1, none⟩ = some (.int .i64 s) ∧ w'.cell? ⟨g, 2, none⟩ = some (.int .i64 d) ∧ w'.cell? ⟨g, 3, none⟩ = some (.int .i64 m)) (by kernel_rfl) ⟨h0, h1, h2, h3⟩ (fun hHeld => ?_)
  refine wpAnyH_take (i := 0) (oi := { dst := some 14, op := Op.move (Operand.tmp 0), type := 9, pos := _, after := #[], guard := none }) (v := ?_) rfl (by kernel_rfl) (by kernel_rfl) (by kernel_rfl) (fun _ _ _ h => h) (Or.inl ⟨by rfl, ?_⟩) (by assumption) ?_
  rotate_left
  · (intro w hSw; (try dsimp only at hSw); go_simp) <;> with_reducible rfl
  try simp only [Act.put, List.setIfInBounds_toArray, List.set_cons_zero, List.set_cons_succ]
  refine wpAnyH_take (i := 2) (oi := { dst := some 16, op := Op.move (Operand.tmp 1), type := 9, pos := _, after := #[], guard := none }) (v := ?_) rfl (by kernel_rfl) (by kernel_rfl) (by kernel_rfl) (fun _ _ _ h => h) (Or.inl ⟨by rfl, ?_⟩) (by assumption) ?_
  rotate_left
  · (intro w hSw; (try dsimp only at hSw); go_simp) <;> with_reducible rfl
  try simp only [Act.put, List.setIfInBounds_toArray, List.set_cons_zero, List.set_cons_succ]
  refine wpAnyH_take (i := 4) (oi := { dst := some 18, op := Op.move (Operand.tmp 2), type := 51, pos := _, after := #[], guard := none }) (v := ?_) rfl (by kernel_rfl) (by kernel_rfl) (by kernel_rfl) (fun _ _ _ h => h) (Or.inl ⟨by rfl, ?_⟩) (by assumption) ?_
  rotate_left
  · (intro w hSw; (try dsimp only at hSw); go_simp) <;> with_reducible rfl
  try simp only [Act.put, List.setIfInBounds_toArray, List.set_cons_zero, List.set_cons_succ]
  refine wpAnyH_take (i := 5) (oi := { dst := some 19, op := Op.nilCheck (Operand.tmp 18), type := 0, pos := _, after := #[{ on := 4, ground := Ground.data }], guard := none }) (v := ?_) rfl (by kernel_rfl) (by kernel_rfl) (by kernel_rfl) (fun _ _ _ h => h) (Or.inl ⟨by rfl, ?_⟩) (by assumption) ?_
  rotate_left
  · (intro w hSw; (try dsimp only at hSw); go_simp) <;> with_reducible rfl
  try simp only [Act.put, List.setIfInBounds_toArray, List.set_cons_zero, List.set_cons_succ]
  refine wpAnyH_take (i := 6) (oi := { dst := some 20, op := Op.fieldAddr 61 (Operand.tmp 19) 3, type := 0, pos := _, after := #[{ on := 5, ground := Ground.data }], guard := none }) (v := ?_) rfl (by kernel_rfl) (by kernel_rfl) (by kernel_rfl) (fun _ _ _ h => h) (Or.inl ⟨by rfl, ?_⟩) (by assumption) ?_
  rotate_left
  · (intro w hSw; (try dsimp only at hSw); go_simp) <;> with_reducible rfl
  try simp only [Act.put, List.setIfInBounds_toArray, List.set_cons_zero, List.set_cons_succ]
  refine wpAnyH_take (i := 7) (oi := { dst := some 21, op := Op.load 3 (Operand.tmp 20), type := 3, pos := _, after := #[{ on := 6, ground := Ground.data }], guard := none }) (v := ?_) rfl (by kernel_rfl) (by kernel_rfl) (by kernel_rfl) (fun _ _ _ h => h) (Or.inl ⟨by rfl, ?_⟩) (by assumption) ?_
  rotate_left
  · (intro w hSw; (try dsimp only at hSw); go_simp) <;> with_reducible rfl
  try simp only [Act.put, List.setIfInBounds_toArray, List.set_cons_zero, List.set_cons_succ]
  refine wpAnyH_take (i := 8) (oi := { dst := some 22, op := Op.move (Operand.tmp 2), type := 51, pos := _, after := #[], guard := none }) (v := ?_) rfl (by kernel_rfl) (by kernel_rfl) (by kernel_rfl) (fun _ _ _ h => h) (Or.inl ⟨by rfl, ?_⟩) (by assumption) ?_
  rotate_left
  · (intro w hSw; (try dsimp only at hSw); go_simp) <;> with_reducible rfl
  try simp only [Act.put, List.setIfInBounds_toArray, List.set_cons_zero, List.set_cons_succ]
  refine wpAnyH_take (i := 9) (oi := { dst := some 23, op := Op.nilCheck (Operand.tmp 22), type := 0, pos := _, after := #[{ on := 8, ground := Ground.data }], guard := none }) (v := ?_) rfl (by kernel_rfl) (by kernel_rfl) (by kernel_rfl) (fun _ _ _ h => h) (Or.inl ⟨by rfl, ?_⟩) (by assumption) ?_
  rotate_left
  · (intro w hSw; (try dsimp only at hSw); go_simp) <;> with_reducible rfl
  try simp only [Act.put, List.setIfInBounds_toArray, List.set_cons_zero, List.set_cons_succ]
  refine wpAnyH_take (i := 10) (oi := { dst := some 24, op := Op.fieldAddr 61 (Operand.tmp 23) 0, type := 0, pos := _, after := #[{ on := 9, ground := Ground.data }], guard := none }) (v := ?_) rfl (by kernel_rfl) (by kernel_rfl) (by kernel_rfl) (fun _ _ _ h => h) (Or.inl ⟨by rfl, ?_⟩) (by assumption) ?_
  rotate_left
  · (intro w hSw; (try dsimp only at hSw); go_simp) <;> with_reducible rfl
  try simp only [Act.put, List.setIfInBounds_toArray, List.set_cons_zero, List.set_cons_succ]
  refine wpAnyH_take (i := 11) (oi := { dst := some 25, op := Op.load 3 (Operand.tmp 24), type := 3, pos := _, after := #[{ on := 10, ground := Ground.data }], guard := none }) (v := ?_) rfl (by kernel_rfl) (by kernel_rfl) (by kernel_rfl) (fun _ _ _ h => h) (Or.inl ⟨by rfl, ?_⟩) (by assumption) ?_
  rotate_left
  · (intro w hSw; (try dsimp only at hSw); go_simp) <;> with_reducible rfl
  try simp only [Act.put, List.setIfInBounds_toArray, List.set_cons_zero, List.set_cons_succ]
  refine wpAnyH_take (i := 12) (oi := { dst := some 26, op := Op.move (Operand.tmp 2), type := 51, pos := _, after := #[], guard := none }) (v := ?_) rfl (by kernel_rfl) (by kernel_rfl) (by kernel_rfl) (fun _ _ _ h => h) (Or.inl ⟨by rfl, ?_⟩) (by assumption) ?_
  rotate_left
  · (intro w hSw; (try dsimp only at hSw); go_simp) <;> with_reducible rfl
  try simp only [Act.put, List.setIfInBounds_toArray, List.set_cons_zero, List.set_cons_succ]
  refine wpAnyH_take (i := 13) (oi := { dst := some 27, op := Op.nilCheck (Operand.tmp 26), type := 0, pos := _, after := #[{ on := 12, ground := Ground.data }], guard := none }) (v := ?_) rfl (by kernel_rfl) (by kernel_rfl) (by kernel_rfl) (fun _ _ _ h => h) (Or.inl ⟨by rfl, ?_⟩) (by assumption) ?_
  rotate_left
  · (intro w hSw; (try dsimp only at hSw); go_simp) <;> with_reducible rfl
  try simp only [Act.put, List.setIfInBounds_toArray, List.set_cons_zero, List.set_cons_succ]
  refine wpAnyH_take (i := 14) (oi := { dst := some 28, op := Op.fieldAddr 61 (Operand.tmp 27) 1, type := 0, pos := _, after := #[{ on := 13, ground := Ground.data }], guard := none }) (v := ?_) rfl (by kernel_rfl) (by kernel_rfl) (by kernel_rfl) (fun _ _ _ h => h) (Or.inl ⟨by rfl, ?_⟩) (by assumption) ?_
  rotate_left
  · (intro w hSw; (try dsimp only at hSw); go_simp) <;> with_reducible rfl
  try simp only [Act.put, List.setIfInBounds_toArray, List.set_cons_zero, List.set_cons_succ]
  refine wpAnyH_take (i := 15) (oi := { dst := some 29, op := Op.load 3 (Operand.tmp 28), type := 3, pos := _, after := #[{ on := 14, ground := Ground.data }], guard := none }) (v := ?_) rfl (by kernel_rfl) (by kernel_rfl) (by kernel_rfl) (fun _ _ _ h => h) (Or.inl ⟨by rfl, ?_⟩) (by assumption) ?_
  rotate_left
  · (intro w hSw; (try dsimp only at hSw); go_simp) <;> with_reducible rfl
  try simp only [Act.put, List.setIfInBounds_toArray, List.set_cons_zero, List.set_cons_succ]
  refine wpAnyH_take (i := 16) (oi := { dst := some 30, op := Op.move (Operand.tmp 2), type := 51, pos := _, after := #[], guard := none }) (v := ?_) rfl (by kernel_rfl) (by kernel_rfl) (by kernel_rfl) (fun _ _ _ h => h) (Or.inl ⟨by rfl, ?_⟩) (by assumption) ?_
  rotate_left
  · (intro w hSw; (try dsimp only at hSw); go_simp) <;> with_reducible rfl
  try simp only [Act.put, List.setIfInBounds_toArray, List.set_cons_zero, List.set_cons_succ]
  refine wpAnyH_take (i := 17) (oi := { dst := some 31, op := Op.nilCheck (Operand.tmp 30), type := 0, pos := _, after := #[{ on := 16, ground := Ground.data }], guard := none }) (v := ?_) rfl (by kernel_rfl) (by kernel_rfl) (by kernel_rfl) (fun _ _ _ h => h) (Or.inl ⟨by rfl, ?_⟩) (by assumption) ?_
  rotate_left
  · (intro w hSw; (try dsimp only at hSw); go_simp) <;> with_reducible rfl
  try simp only [Act.put, List.setIfInBounds_toArray, List.set_cons_zero, List.set_cons_succ]
  refine wpAnyH_take (i := 18) (oi := { dst := some 32, op := Op.fieldAddr 61 (Operand.tmp 31) 2, type := 0, pos := _, after := #[{ on := 17, ground := Ground.data }], guard := none }) (v := ?_) rfl (by kernel_rfl) (by kernel_rfl) (by kernel_rfl) (fun _ _ _ h => h) (Or.inl ⟨by rfl, ?_⟩) (by assumption) ?_
  rotate_left
  · (intro w hSw; (try dsimp only at hSw); go_simp) <;> with_reducible rfl
  try simp only [Act.put, List.setIfInBounds_toArray, List.set_cons_zero, List.set_cons_succ]
  refine wpAnyH_take (i := 19) (oi := { dst := some 33, op := Op.load 3 (Operand.tmp 32), type := 3, pos := _, after := #[{ on := 18, ground := Ground.data }], guard := none }) (v := ?_) rfl (by kernel_rfl) (by kernel_rfl) (by kernel_rfl) (fun _ _ _ h => h) (Or.inl ⟨by rfl, ?_⟩) (by assumption) ?_
  rotate_left
  · (intro w hSw; (try dsimp only at hSw); go_simp) <;> with_reducible rfl
  try simp only [Act.put, List.setIfInBounds_toArray, List.set_cons_zero, List.set_cons_succ]
  refine wpAnyH_ready (rs := [1, 3]) (by kernel_rfl) (by simp) ?_
  refine AllReadyH.cons (o := { dst := some 15, op := Op.convert 9 46 (Operand.tmp 14), type := 46, pos := _, after := #[{ on := 0, ground := Ground.data }], guard := none }) rfl (fun K hK => ?_) ?_
  · go_simp
    refine hK.out _ _ ?_ (fun hHeld => ?_)
    · go_keep
    clear hK K
    try simp only [Act.put, List.setIfInBounds_toArray, List.set_cons_zero, List.set_cons_succ]
    refine wpAnyH_ready (rs := [3]) (by kernel_rfl) (by simp) ?_
    refine AllReadyH.cons (o := { dst := some 17, op := Op.convert 9 46 (Operand.tmp 16), type := 46, pos := _, after := #[{ on := 2, ground := Ground.data }], guard := none }) rfl (fun K hK => ?_) ?_
    · go_simp
      refine hK.out _ _ ?_ (fun hHeld => ?_)
      · go_keep
      clear hK K
      try simp only [Act.put, List.setIfInBounds_toArray, List.set_cons_zero, List.set_cons_succ]
      refine wpAnyH_ready (rs := [20]) (by kernel_rfl) (by simp) ?_
      refine AllReadyH.cons (o := { dst := some 34, op := Op.call { callee := Callee.value (Operand.func 35), args := #[Operand.tmp 15, Operand.tmp 17, Operand.tmp 21, Operand.tmp 25, Operand.tmp 29, Operand.tmp 33], argTypes := #[46, 46, 3, 3, 3, 3] }, type := 28, pos := _, after := #[{ on := 1, ground := Ground.data }, { on := 3, ground := Ground.data }, { on := 7, ground := Ground.data }, { on := 11, ground := Ground.data }, { on := 15, ground := Ground.data }, { on := 19, ground := Ground.data }], guard := none }) rfl (fun K hK => ?_) ?_
      · go_simp
        refine (calc_any _ _ _ _ (rn a) _ _ _ _ (rn b) m i s d _ (by omega) (by omega) (rl_cap _ _) (rl_cap _ _) (by exact (two_conv wc _ _ a b).1) (by exact (two_conv wc _ _ a b).2) hm hi hs hd).mono ?_
        rintro e w' ⟨⟨_, _, rfl, _, _⟩, hb⟩
        have hb1 : Below wc.heap.size wc w' := (((Below.refl _ wc).alloc (Nat.le_refl _) _).alloc (by simp) _).drew.drew.drew.trans (hb.mono (by simp; omega))
        clear hb
        go_wp2_with fail
        refine hK.out _ _ (by exact ⟨(hb1.cell (p := ⟨g, 0, none⟩) hgl).trans h0, (hb1.cell (p := ⟨g, 1, none⟩) hgl).trans h1, (hb1.cell (p := ⟨g, 2, none⟩) hgl).trans h2, (hb1.cell (p := ⟨g, 3, none⟩) hgl).trans h3⟩) (fun hHeld => ?_)
        clear hK K
        try simp only [Act.put, List.setIfInBounds_toArray, List.set_cons_zero, List.set_cons_succ]
        refine wpAnyH_take (i := 21) (oi := { dst := some 13, op := Op.move (Operand.tmp 34), type := 28, pos := _, after := #[{ on := 20, ground := Ground.data }], guard := none }) (v := ?_) rfl (by kernel_rfl) (by kernel_rfl) (by kernel_rfl) (fun _ _ _ h => h) (Or.inl ⟨by rfl, ?_⟩) (by assumption) ?_
        rotate_left
        · (intro w hSw; (try dsimp only at hSw); go_simp) <;> with_reducible rfl
        try simp only [Act.put, List.setIfInBounds_toArray, List.set_cons_zero, List.set_cons_succ]
        refine wpAnyH_take (i := 22) (oi := { dst := some 35, op := Op.extract (Operand.tmp 13) 0, type := 3, pos := _, after := #[{ on := 21, ground := Ground.data }], guard := none }) (v := ?_) rfl (by kernel_rfl) (by kernel_rfl) (by kernel_rfl) (fun _ _ _ h => h) (Or.inl ⟨by rfl, ?_⟩) (by assumption) ?_
        rotate_left
        · (intro w hSw; (try dsimp only at hSw); go_simp) <;> with_reducible rfl
        try simp only [Act.put, List.setIfInBounds_toArray, List.set_cons_zero, List.set_cons_succ]
        refine wpAnyH_take (i := 23) (oi := { dst := some 36, op := Op.extract (Operand.tmp 13) 1, type := 3, pos := _, after := #[{ on := 21, ground := Ground.data }, { on := 25, ground := Ground.gcOnly Departure.lateStores }], guard := none }) (v := ?_) rfl (by kernel_rfl) (by kernel_rfl) (by kernel_rfl) (fun _ _ _ h => h) (Or.inl ⟨by rfl, ?_⟩) (by assumption) ?_
        rotate_left
        · (intro w hSw; (try dsimp only at hSw); go_simp) <;> with_reducible rfl
        try simp only [Act.put, List.setIfInBounds_toArray, List.set_cons_zero, List.set_cons_succ]
        refine wpAnyH_take (i := 24) (oi := { dst := some 37, op := Op.extract (Operand.tmp 13) 2, type := 3, pos := _, after := #[{ on := 21, ground := Ground.data }, { on := 26, ground := Ground.gcOnly Departure.lateStores }], guard := none }) (v := ?_) rfl (by kernel_rfl) (by kernel_rfl) (by kernel_rfl) (fun _ _ _ h => h) (Or.inl ⟨by rfl, ?_⟩) (by assumption) ?_
        rotate_left
        · (intro w hSw; (try dsimp only at hSw); go_simp) <;> with_reducible rfl
        try simp only [Act.put, List.setIfInBounds_toArray, List.set_cons_zero, List.set_cons_succ]
        refine wpAnyH_take (i := 25) (oi := { dst := some 7, op := Op.assign (Operand.tmp 35), type := 3, pos := _, after := #[{ on := 22, ground := Ground.data }, { on := 20, ground := Ground.chain }, { on := 0, ground := Ground.phase }, { on := 1, ground := Ground.phase }, { on := 2, ground := Ground.phase }, { on := 3, ground := Ground.phase }, { on := 4, ground := Ground.phase }, { on := 5, ground := Ground.phase }, { on := 6, ground := Ground.phase }, { on := 7, ground := Ground.phase }, { on := 8, ground := Ground.phase }, { on := 9, ground := Ground.phase }, { on := 10, ground := Ground.phase }, { on := 11, ground := Ground.phase }, { on := 12, ground := Ground.phase }, { on := 13, ground := Ground.phase }, { on := 14, ground := Ground.phase }, { on := 15, ground := Ground.phase }, { on := 16, ground := Ground.phase }, { on := 17, ground := Ground.phase }, { on := 18, ground := Ground.phase }, { on := 19, ground := Ground.phase }, { on := 20, ground := Ground.phase }, { on := 21, ground := Ground.phase }, { on := 22, ground := Ground.phase }, { on := 23, ground := Ground.textOnly Departure.lateStores }, { on := 24, ground := Ground.textOnly Departure.lateStores }], guard := none }) (v := ?_) rfl (by kernel_rfl) (by kernel_rfl) (by kernel_rfl) (fun _ _ _ h => h) (Or.inl ⟨by rfl, ?_⟩) (by assumption) ?_
        rotate_left
        · (intro w hSw; (try dsimp only at hSw); go_simp) <;> with_reducible rfl
        try simp only [Act.put, List.setIfInBounds_toArray, List.set_cons_zero, List.set_cons_succ]
        refine wpAnyH_take (i := 26) (oi := { dst := some 8, op := Op.assign (Operand.tmp 36), type := 3, pos := _, after := #[{ on := 23, ground := Ground.data }, { on := 25, ground := Ground.chain }, { on := 0, ground := Ground.phase }, { on := 1, ground := Ground.phase }, { on := 2, ground := Ground.phase }, { on := 3, ground := Ground.phase }, { on := 4, ground := Ground.phase }, { on := 5, ground := Ground.phase }, { on := 6, ground := Ground.phase }, { on := 7, ground := Ground.phase }, { on := 8, ground := Ground.phase }, { on := 9, ground := Ground.phase }, { on := 10, ground := Ground.phase }, { on := 11, ground := Ground.phase }, { on := 12, ground := Ground.phase }, { on := 13, ground := Ground.phase }, { on := 14, ground := Ground.phase }, { on := 15, ground := Ground.phase }, { on := 16, ground := Ground.phase }, { on := 17, ground := Ground.phase }, { on := 18, ground := Ground.phase }, { on := 19, ground := Ground.phase }, { on := 20, ground := Ground.phase }, { on := 21, ground := Ground.phase }, { on := 22, ground := Ground.phase }, { on := 23, ground := Ground.phase }, { on := 24, ground := Ground.textOnly Departure.lateStores }, { on := 25, ground := Ground.phase }], guard := none }) (v := ?_) rfl (by kernel_rfl) (by kernel_rfl) (by kernel_rfl) (fun _ _ _ h => h) (Or.inl ⟨by rfl, ?_⟩) (by assumption) ?_
        rotate_left
        · (intro w hSw; (try dsimp only at hSw); go_simp) <;> with_reducible rfl
        try simp only [Act.put, List.setIfInBounds_toArray, List.set_cons_zero, List.set_cons_succ]
        refine wpAnyH_take (i := 27) (oi := { dst := some 9, op := Op.assign (Operand.tmp 37), type := 3, pos := _, after := #[{ on := 24, ground := Ground.data }, { on := 26, ground := Ground.chain }, { on := 0, ground := Ground.phase }, { on := 1, ground := Ground.phase }, { on := 2, ground := Ground.phase }, { on := 3, ground := Ground.phase }, { on := 4, ground := Ground.phase }, { on := 5, ground := Ground.phase }, { on := 6, ground := Ground.phase }, { on := 7, ground := Ground.phase }, { on := 8, ground := Ground.phase }, { on := 9, ground := Ground.phase }, { on := 10, ground := Ground.phase }, { on := 11, ground := Ground.phase }, { on := 12, ground := Ground.phase }, { on := 13, ground := Ground.phase }, { on := 14, ground := Ground.phase }, { on := 15, ground := Ground.phase }, { on := 16, ground := Ground.phase }, { on := 17, ground := Ground.phase }, { on := 18, ground := Ground.phase }, { on := 19, ground := Ground.phase }, { on := 20, ground := Ground.phase }, { on := 21, ground := Ground.phase }, { on := 22, ground := Ground.phase }, { on := 23, ground := Ground.phase }, { on := 24, ground := Ground.phase }, { on := 25, ground := Ground.phase }, { on := 26, ground := Ground.phase }], guard := none }) (v := ?_) rfl (by kernel_rfl) (by kernel_rfl) (by kernel_rfl) (fun _ _ _ h => h) (Or.inl ⟨by rfl, ?_⟩) (by assumption) ?_
        rotate_left
        · (intro w hSw; (try dsimp only at hSw); go_simp) <;> with_reducible rfl
        try simp only [Act.put, List.setIfInBounds_toArray, List.set_cons_zero, List.set_cons_succ]
        refine wpAnyH_done (by kernel_rfl) ?_ _
        go_wp2
        go_ret
        exact ⟨rfl, hB.trans (hb1.mono hsz)⟩
      · exact AllReadyH.nil
    · exact AllReadyH.nil
  · refine AllReadyH.cons (o := { dst := some 17, op := Op.convert 9 46 (Operand.tmp 16), type := 46, pos := _, after := #[{ on := 2, ground := Ground.data }], guard := none }) rfl (fun K hK => ?_) ?_
    · go_simp
      refine hK.out _ _ ?_ (fun hHeld => ?_)
      · go_keep
      clear hK K
      try simp only [Act.put, List.setIfInBounds_toArray, List.set_cons_zero, List.set_cons_succ]
      refine wpAnyH_ready (rs := [1]) (by kernel_rfl) (by simp) ?_
      refine AllReadyH.cons (o := { dst := some 15, op := Op.convert 9 46 (Operand.tmp 14), type := 46, pos := _, after := #[{ on := 0, ground := Ground.data }], guard := none }) rfl (fun K hK => ?_) ?_
      · go_simp
        refine hK.out _ _ ?_ (fun hHeld => ?_)
        · go_keep
        clear hK K
        try simp only [Act.put, List.setIfInBounds_toArray, List.set_cons_zero, List.set_cons_succ]
        refine wpAnyH_ready (rs := [20]) (by kernel_rfl) (by simp) ?_
        refine AllReadyH.cons (o := { dst := some 34, op := Op.call { callee := Callee.value (Operand.func 35), args := #[Operand.tmp 15, Operand.tmp 17, Operand.tmp 21, Operand.tmp 25, Operand.tmp 29, Operand.tmp 33], argTypes := #[46, 46, 3, 3, 3, 3] }, type := 28, pos := _, after := #[{ on := 1, ground := Ground.data }, { on := 3, ground := Ground.data }, { on := 7, ground := Ground.data }, { on := 11, ground := Ground.data }, { on := 15, ground := Ground.data }, { on := 19, ground := Ground.data }], guard := none }) rfl (fun K hK => ?_) ?_
        · go_simp
          refine (calc_any _ _ _ _ (rn a) _ _ _ _ (rn b) m i s d _ (by omega) (by omega) (rl_cap _ _) (rl_cap _ _) (by exact (two_conv wc _ _ b a).2) (by exact (two_conv wc _ _ b a).1) hm hi hs hd).mono ?_
          rintro e w' ⟨⟨_, _, rfl, _, _⟩, hb⟩
          have hb1 : Below wc.heap.size wc w' := (((Below.refl _ wc).alloc (Nat.le_refl _) _).alloc (by simp) _).drew.drew.drew.trans (hb.mono (by simp; omega))
          clear hb
          go_wp2_with fail
          refine hK.out _ _ (by exact ⟨(hb1.cell (p := ⟨g, 0, none⟩) hgl).trans h0, (hb1.cell (p := ⟨g, 1, none⟩) hgl).trans h1, (hb1.cell (p := ⟨g, 2, none⟩) hgl).trans h2, (hb1.cell (p := ⟨g, 3, none⟩) hgl).trans h3⟩) (fun hHeld => ?_)
          clear hK K
          try simp only [Act.put, List.setIfInBounds_toArray, List.set_cons_zero, List.set_cons_succ]
          refine wpAnyH_take (i := 21) (oi := { dst := some 13, op := Op.move (Operand.tmp 34), type := 28, pos := _, after := #[{ on := 20, ground := Ground.data }], guard := none }) (v := ?_) rfl (by kernel_rfl) (by kernel_rfl) (by kernel_rfl) (fun _ _ _ h => h) (Or.inl ⟨by rfl, ?_⟩) (by assumption) ?_
          rotate_left
          · (intro w hSw; (try dsimp only at hSw); go_simp) <;> with_reducible rfl
          try simp only [Act.put, List.setIfInBounds_toArray, List.set_cons_zero, List.set_cons_succ]
          refine wpAnyH_take (i := 22) (oi := { dst := some 35, op := Op.extract (Operand.tmp 13) 0, type := 3, pos := _, after := #[{ on := 21, ground := Ground.data }], guard := none }) (v := ?_) rfl (by kernel_rfl) (by kernel_rfl) (by kernel_rfl) (fun _ _ _ h => h) (Or.inl ⟨by rfl, ?_⟩) (by assumption) ?_
          rotate_left
          · (intro w hSw; (try dsimp only at hSw); go_simp) <;> with_reducible rfl
          try simp only [Act.put, List.setIfInBounds_toArray, List.set_cons_zero, List.set_cons_succ]
          refine wpAnyH_take (i := 23) (oi := { dst := some 36, op := Op.extract (Operand.tmp 13) 1, type := 3, pos := _, after := #[{ on := 21, ground := Ground.data }, { on := 25, ground := Ground.gcOnly Departure.lateStores }], guard := none }) (v := ?_) rfl (by kernel_rfl) (by kernel_rfl) (by kernel_rfl) (fun _ _ _ h => h) (Or.inl ⟨by rfl, ?_⟩) (by assumption) ?_
          rotate_left
          · (intro w hSw; (try dsimp only at hSw); go_simp) <;> with_reducible rfl
          try simp only [Act.put, List.setIfInBounds_toArray, List.set_cons_zero, List.set_cons_succ]
          refine wpAnyH_take (i := 24) (oi := { dst := some 37, op := Op.extract (Operand.tmp 13) 2, type := 3, pos := _, after := #[{ on := 21, ground := Ground.data }, { on := 26, ground := Ground.gcOnly Departure.lateStores }], guard := none }) (v := ?_) rfl (by kernel_rfl) (by kernel_rfl) (by kernel_rfl) (fun _ _ _ h => h) (Or.inl ⟨by rfl, ?_⟩) (by assumption) ?_
          rotate_left
          · (intro w hSw; (try dsimp only at hSw); go_simp) <;> with_reducible rfl
          try simp only [Act.put, List.setIfInBounds_toArray, List.set_cons_zero, List.set_cons_succ]
          refine wpAnyH_take (i := 25) (oi := { dst := some 7, op := Op.assign (Operand.tmp 35), type := 3, pos := _, after := #[{ on := 22, ground := Ground.data }, { on := 20, ground := Ground.chain }, { on := 0, ground := Ground.phase }, { on := 1, ground := Ground.phase }, { on := 2, ground := Ground.phase }, { on := 3, ground := Ground.phase }, { on := 4, ground := Ground.phase }, { on := 5, ground := Ground.phase }, { on := 6, ground := Ground.phase }, { on := 7, ground := Ground.phase }, { on := 8, ground := Ground.phase }, { on := 9, ground := Ground.phase }, { on := 10, ground := Ground.phase }, { on := 11, ground := Ground.phase }, { on := 12, ground := Ground.phase }, { on := 13, ground := Ground.phase }, { on := 14, ground := Ground.phase }, { on := 15, ground := Ground.phase }, { on := 16, ground := Ground.phase }, { on := 17, ground := Ground.phase }, { on := 18, ground := Ground.phase }, { on := 19, ground := Ground.phase }, { on := 20, ground := Ground.phase }, { on := 21, ground := Ground.phase }, { on := 22, ground := Ground.phase }, { on := 23, ground := Ground.textOnly Departure.lateStores }, { on := 24, ground := Ground.textOnly Departure.lateStores }], guard := none }) (v := ?_) rfl (by kernel_rfl) (by kernel_rfl) (by kernel_rfl) (fun _ _ _ h => h) (Or.inl ⟨by rfl, ?_⟩) (by assumption) ?_
          rotate_left
          · (intro w hSw; (try dsimp only at hSw); go_simp) <;> with_reducible rfl
          try simp only [Act.put, List.setIfInBounds_toArray, List.set_cons_zero, List.set_cons_succ]
          refine wpAnyH_take (i := 26) (oi := { dst := some 8, op := Op.assign (Operand.tmp 36), type := 3, pos := _, after := #[{ on := 23, ground := Ground.data }, { on := 25, ground := Ground.chain }, { on := 0, ground := Ground.phase }, { on := 1, ground := Ground.phase }, { on := 2, ground := Ground.phase }, { on := 3, ground := Ground.phase }, { on := 4, ground := Ground.phase }, { on := 5, ground := Ground.phase }, { on := 6, ground := Ground.phase }, { on := 7, ground := Ground.phase }, { on := 8, ground := Ground.phase }, { on := 9, ground := Ground.phase }, { on := 10, ground := Ground.phase }, { on := 11, ground := Ground.phase }, { on := 12, ground := Ground.phase }, { on := 13, ground := Ground.phase }, { on := 14, ground := Ground.phase }, { on := 15, ground := Ground.phase }, { on := 16, ground := Ground.phase }, { on := 17, ground := Ground.phase }, { on := 18, ground := Ground.phase }, { on := 19, ground := Ground.phase }, { on := 20, ground := Ground.phase }, { on := 21, ground := Ground.phase }, { on := 22, ground := Ground.phase }, { on := 23, ground := Ground.phase }, { on := 24, ground := Ground.textOnly Departure.lateStores }, { on := 25, ground := Ground.phase }], guard := none }) (v := ?_) rfl (by kernel_rfl) (by kernel_rfl) (by kernel_rfl) (fun _ _ _ h => h) (Or.inl ⟨by rfl, ?_⟩) (by assumption) ?_
          rotate_left
          · (intro w hSw; (try dsimp only at hSw); go_simp) <;> with_reducible rfl
          try simp only [Act.put, List.setIfInBounds_toArray, List.set_cons_zero, List.set_cons_succ]
          refine wpAnyH_take (i := 27) (oi := { dst := some 9, op := Op.assign (Operand.tmp 37), type := 3, pos := _, after := #[{ on := 24, ground := Ground.data }, { on := 26, ground := Ground.chain }, { on := 0, ground := Ground.phase }, { on := 1, ground := Ground.phase }, { on := 2, ground := Ground.phase }, { on := 3, ground := Ground.phase }, { on := 4, ground := Ground.phase }, { on := 5, ground := Ground.phase }, { on := 6, ground := Ground.phase }, { on := 7, ground := Ground.phase }, { on := 8, ground := Ground.phase }, { on := 9, ground := Ground.phase }, { on := 10, ground := Ground.phase }, { on := 11, ground := Ground.phase }, { on := 12, ground := Ground.phase }, { on := 13, ground := Ground.phase }, { on := 14, ground := Ground.phase }, { on := 15, ground := Ground.phase }, { on := 16, ground := Ground.phase }, { on := 17, ground := Ground.phase }, { on := 18, ground := Ground.phase }, { on := 19, ground := Ground.phase }, { on := 20, ground := Ground.phase }, { on := 21, ground := Ground.phase }, { on := 22, ground := Ground.phase }, { on := 23, ground := Ground.phase }, { on := 24, ground := Ground.phase }, { on := 25, ground := Ground.phase }, { on := 26, ground := Ground.phase }], guard := none }) (v := ?_) rfl (by kernel_rfl) (by kernel_rfl) (by kernel_rfl) (fun _ _ _ h => h) (Or.inl ⟨by rfl, ?_⟩) (by assumption) ?_
          rotate_left
          · (intro w hSw; (try dsimp only at hSw); go_simp) <;> with_reducible rfl
          try simp only [Act.put, List.setIfInBounds_toArray, List.set_cons_zero, List.set_cons_succ]
          refine wpAnyH_done (by kernel_rfl) ?_ _
          go_wp2
          go_ret
          exact ⟨rfl, hB.trans (hb1.mono hsz)⟩
        · exact AllReadyH.nil
      · exact AllReadyH.nil
    · exact AllReadyH.nil

end Go.Proofs.Ytmphoafjeojodaa
