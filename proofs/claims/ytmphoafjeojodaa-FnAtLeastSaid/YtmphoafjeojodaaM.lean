/- utf8.RuneCountInString, spec.Longer, spec.Rest -/
import Derived.Test.YtmphoafjeojodaaE
import Derived.Laws.RangeAny
import Derived.Laws.RangeString
namespace Go.Proofs.Ytmphoafjeojodaa
open Go.RowKit

theorem width_pos (s : ByteArray) (pos : Nat) (h : pos < s.size) : 1 ≤ (Utf8.decode s pos).2 := by
  by_cases ha : (s[pos]'h).toNat < 128
  · rw [decode_ascii s pos h ha]
    exact Nat.le_refl _
  · exact (decode_high s pos h (by omega)).2

theorem runesFrom_end (s : ByteArray) (b pos : Nat) (acc : Array Value) (h : ¬ pos < s.size) : Conv.runesFrom s b pos acc = acc := by
  cases b with
  | zero => rfl
  | succ b => simp [Conv.runesFrom, h]
theorem runesFrom_step (s : ByteArray) (b pos : Nat) (acc : Array Value) (h : pos < s.size) : Conv.runesFrom s (b + 1) pos acc = Conv.runesFrom s b (pos + (Utf8.decode s pos).2) (acc.push (.int .i32 (Int.ofNat (Utf8.decode s pos).1))) := by
  simp [Conv.runesFrom, h]

/-- the runes read so far, from the front -/
def Read (s : ByteArray) (pos b : Nat) (acc : Array Value) : Prop := Conv.runesFrom s b pos acc = rv s ∧ s.size ≤ pos + b ∧ acc.size ≤ rl s
theorem size_ge_runesFrom (s : ByteArray) : ∀ (b i : Nat) (acc : Array Value), acc.size ≤ (Conv.runesFrom s b i acc).size
  | 0, i, acc => by simp [Conv.runesFrom]
  | b + 1, i, acc => by
    unfold Conv.runesFrom
    split
    · have := size_ge_runesFrom s b (i + (Utf8.decode s i).2) (acc.push (.int .i32 (Int.ofNat (Utf8.decode s i).1)))
      simp at this ⊢
      omega
    · exact Nat.le_refl _
theorem Read.mk' {s : ByteArray} {pos b : Nat} {acc : Array Value} (h : Conv.runesFrom s b pos acc = rv s) (h2 : s.size ≤ pos + b) : Read s pos b acc :=
  ⟨h, h2, by have := size_ge_runesFrom s b pos acc; rw [h] at this; exact this⟩
theorem Read.zero (s : ByteArray) : Read s 0 s.size #[] := Read.mk' rfl (by omega)
theorem Read.next {s : ByteArray} {pos b : Nat} {acc : Array Value} (h : Read s pos b acc) (hp : pos < s.size) :
    ∃ b', Read s (pos + (Utf8.decode s pos).2) b' (acc.push (.int .i32 (Int.ofNat (Utf8.decode s pos).1))) ∧ b' < b := by
  have := width_pos s pos hp
  obtain ⟨h1, h2, _⟩ := h
  cases b with
  | zero => omega
  | succ b =>
    rw [runesFrom_step s b pos acc hp] at h1
    exact ⟨b, Read.mk' h1 (by omega), by omega⟩
theorem Read.done {s : ByteArray} {pos b : Nat} {acc : Array Value} (h : Read s pos b acc) (hp : ¬ pos < s.size) : acc.size = rl s := by
  have := h.1
  rw [runesFrom_end s b pos acc hp] at this
  rw [this]; rfl

set_option maxRecDepth 1000000 in
theorem count_any (s : ByteArray) (w : World) (hs : s.size ≤ 140737488351232) :
    Calls Try.prog 41 #[.string s] w fun e w' => e = .returned (.int .i64 (rl s)) ∧ Below w.heap.size w w' := by
  have hl := rl_le s
  go_enter Try.func41, Try.ntmps41
  go_wp2
  go_loopw [2] (fun n w' => ∃ (pos b : Nat) (acc : Array Value), w' = w.iter s pos ∧ n = .int .i64 acc.size ∧ Read s pos b acc) (fun _ w' => s.size - w'.iterPos w.heap.size)
  case atStart => exact ⟨0, s.size, #[], rfl, rfl, Read.zero s⟩
  case round =>
    obtain ⟨pos, b, acc, rfl, rfl, HR⟩ := hrel
    have hacc := HR.2.2
    obtain ⟨n, hn⟩ : ∃ n, n = acc.size := ⟨_, rfl⟩
    rw [← hn] at hacc ⊢
    have HN : Hid (n = acc.size) := hn
    clear hn
    by_cases hp : pos < s.size
    · have hnx : ∀ ty, (Instr.next (.pointer (some ⟨w.heap.size, 0, none⟩)) true ty).run Try.prog (w.iter s pos) = _ := fun ty => run_next_any w s pos ty hp
      have hwd := width_pos s pos hp
      go_wp2
      go_roundw
      case rel =>
        obtain ⟨b', HR', hb'⟩ := HR.next hp
        exact ⟨_, b', _, rfl, by rw [Array.size_push, ← HN.out]; go_num, HR'⟩
      case measure =>
        simp
        omega
    · have hnx : ∀ ty, (Instr.next (.pointer (some ⟨w.heap.size, 0, none⟩)) true ty).run Try.prog (w.iter s pos) = _ := fun ty => run_next_end w s pos ty hp
      have hfin := HR.done hp
      have HF : Hid (n = rl s) := HN.out.trans hfin
      clear hfin HN
      go_wp2
      go_ret
      exact ⟨ret_int (by rw [HF.out]), (Below.refl _ w).alloc (Nat.le_refl _) _⟩
theorem longer_any (a b : ByteArray) (w : World) (ha : a.size ≤ 60) (hb : b.size ≤ 60) :
    Calls Try.prog 26 #[.string a, .string b] w fun e w' => e = .returned (.int .i64 (max (rl a) (rl b) : Nat)) ∧ Below w.heap.size w w' := by
  obtain ⟨m, hm, hmm⟩ : ∃ m : Nat, m = max (rl a) (rl b) ∧ max (rl a : Int) (rl b : Int) = (m : Int) := ⟨_, rfl, by omega⟩
  rw [← hm]
  clear hm
  go_enter Try.func26, Try.ntmps26
  go_wp2_with fail
  refine (count_any a _ (by omega)).mono ?_
  rintro e w1 ⟨rfl, hb1⟩
  go_wp2_with fail
  refine (count_any b _ (by omega)).mono ?_
  rintro e w2 ⟨rfl, hb2⟩
  go_wp2
  go_ret
  exact ⟨rfl, hb1.trans (hb2.mono hb1.size)⟩

/-- how many letters the longer text has behind the common beginning and end -/
def Rested (x y : Nat → Int) (l1 l2 : Nat) (e : Ending) : Prop := ∃ P Q R : Nat, e = .returned (.int .i64 R) ∧ IsPre x y l1 l2 P ∧ IsSuf (fun n => x (P + n)) (fun n => y (P + n)) (l1 - P) (l2 - P) Q ∧ R + P + Q = max l1 l2

theorem rest_any (a b : ByteArray) (w : World) (ha : a.size ≤ 60) (hb : b.size ≤ 60) :
    Calls Try.prog 18 #[.string a, .string b] w fun e w' => Rested (rn a) (rn b) (rl a) (rl b) e ∧ Below w.heap.size w w' := by
  go_enter Try.func18, Try.ntmps18
  go_wp2_with fail
  refine (ends_any a b _ ha hb).mono ?_
  rintro e w1 ⟨⟨P, Q, rfl, HP, HQ⟩, hb1⟩
  go_wp2_with fail
  refine (longer_any a b _ ha hb).mono ?_
  rintro e w2 ⟨rfl, hb2⟩
  have la := rl_le a
  have lb := rl_le b
  have p1 := HP.1
  have p2 := HP.2.1
  have q1 := HQ.1
  have q2 := HQ.2.1
  obtain ⟨m, hm⟩ : ∃ m, m = max (rl a) (rl b) := ⟨_, rfl⟩
  rw [← hm]
  obtain ⟨R1, hR1⟩ : ∃ R1 : Nat, (m : Int) - (P : Int) = (R1 : Int) := ⟨m - P, by omega⟩
  obtain ⟨R, hR⟩ : ∃ R : Nat, (R1 : Int) - (Q : Int) = (R : Int) := ⟨R1 - Q, by omega⟩
  have hfin : Rested (rn a) (rn b) (rl a) (rl b) (.returned (.int .i64 R)) := ⟨P, Q, R, rfl, HP, HQ, by omega⟩
  have hm100 : m ≤ 60 := by omega
  clear hm HP HQ
  go_wp2
  go_ret
  exact ⟨hfin, hb1.trans (hb2.mono hb1.size)⟩
end Go.Proofs.Ytmphoafjeojodaa
