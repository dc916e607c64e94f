/- texts of known letters: their bytes, and their runes -/
import Derived.Test.YtmphoafjeojodaaDoorM
namespace Go.Proofs.YtmphoafjeojodaaDoor
open Go.RowKit

/-- the letters that occur: a, b, c, d, e with an accent, a sign of three bytes, a blank, a newline -/
def Alpha (r : Int) : Prop := r = 97 ∨ r = 98 ∨ r = 99 ∨ r = 100 ∨ r = 233 ∨ r = 26085 ∨ r = 32 ∨ r = 10

/-- the text of a list of letters -/
def enc : List Int → ByteArray
  | [] => ByteArray.empty
  | r :: rs => Utf8.encode r ++ enc rs

theorem ba_assoc (a b c : ByteArray) : a ++ b ++ c = a ++ (b ++ c) := ByteArray.append_assoc
theorem enc_append (xs ys : List Int) : enc (xs ++ ys) = enc xs ++ enc ys := by
  induction xs with
  | nil => simp [enc]
  | cons x xs ih => simp [enc, ih, ByteArray.append_assoc]
theorem enc_one (r : Int) : enc [r] = Utf8.encode r := by simp [enc]
theorem enc_snoc (xs : List Int) (r : Int) : enc (xs ++ [r]) = enc xs ++ Utf8.encode r := by rw [enc_append, enc_one]

theorem get_mid (p m q : ByteArray) (k : Nat) (h : k < m.size) : (p ++ m ++ q).get! (p.size + k) = m.get! k := by
  have e : ∀ (s : ByteArray) (i : Nat), s.get! i = s.data[i]! := fun s i => by cases s; rfl
  rw [e, e, ByteArray.data_append, ByteArray.data_append]
  have hm : k < m.data.size := h
  have hp : p.size = p.data.size := rfl
  rw [hp, getElem!_pos (p.data ++ m.data ++ q.data) _ (by simp; omega), getElem!_pos m.data k hm, Array.getElem_append_left (by simp; omega), Array.getElem_append_right (by omega)]
  simp

theorem dec1 (p q : ByteArray) (b : UInt8) (h : b.toNat < 128) : Utf8.decode (p ++ ⟨#[b]⟩ ++ q) p.size = (b.toNat, 1) := by
  have h0 : (p ++ ⟨#[b]⟩ ++ q).get! (p.size + 0) = b := get_mid p ⟨#[b]⟩ q 0 (by show 0 < 1; omega)
  unfold Utf8.decode
  simp only [h0, h, if_true]
theorem dec2 (p q : ByteArray) : Utf8.decode (p ++ ⟨#[195, 169]⟩ ++ q) p.size = (233, 2) := by
  have h0 : (p ++ ⟨#[195, 169]⟩ ++ q).get! (p.size + 0) = 195 := get_mid p ⟨#[195, 169]⟩ q 0 (by decide)
  have h1 : (p ++ ⟨#[195, 169]⟩ ++ q).get! (p.size + 1) = 169 := get_mid p ⟨#[195, 169]⟩ q 1 (by decide)
  have hs : p.size + 1 < (p ++ ⟨#[195, 169]⟩ ++ q).size := by
    rw [ByteArray.size_append, ByteArray.size_append]
    have : (⟨#[195, 169]⟩ : ByteArray).size = 2 := rfl
    omega
  unfold Utf8.decode
  simp only [h0, h1, hs]
  rfl
theorem dec3 (p q : ByteArray) : Utf8.decode (p ++ ⟨#[230, 151, 165]⟩ ++ q) p.size = (26085, 3) := by
  have h0 : (p ++ ⟨#[230, 151, 165]⟩ ++ q).get! (p.size + 0) = 230 := get_mid p ⟨#[230, 151, 165]⟩ q 0 (by decide)
  have h1 : (p ++ ⟨#[230, 151, 165]⟩ ++ q).get! (p.size + 1) = 151 := get_mid p ⟨#[230, 151, 165]⟩ q 1 (by decide)
  have h2 : (p ++ ⟨#[230, 151, 165]⟩ ++ q).get! (p.size + 2) = 165 := get_mid p ⟨#[230, 151, 165]⟩ q 2 (by decide)
  have hs2 : p.size + 2 < (p ++ ⟨#[230, 151, 165]⟩ ++ q).size := by
    rw [ByteArray.size_append, ByteArray.size_append]
    have : (⟨#[230, 151, 165]⟩ : ByteArray).size = 3 := rfl
    omega
  have hs : p.size + 1 < (p ++ ⟨#[230, 151, 165]⟩ ++ q).size := by omega
  unfold Utf8.decode
  simp only [h0, h1, h2, hs, hs2]
  rw [if_neg (by decide), if_neg (by decide), if_pos (by decide), if_pos (by decide)]
  decide

theorem encode_alpha {r : Int} (h : Alpha r) : ∃ m, Utf8.encode r = m ∧ 1 ≤ m.size ∧ m.size ≤ 3 ∧ ∀ p q : ByteArray, Utf8.decode (p ++ m ++ q) p.size = (r.toNat, m.size) := by
  rcases h with rfl | rfl | rfl | rfl | rfl | rfl | rfl | rfl
  · exact ⟨⟨#[97]⟩, by decide, by decide, by decide, fun p q => dec1 p q 97 (by decide)⟩
  · exact ⟨⟨#[98]⟩, by decide, by decide, by decide, fun p q => dec1 p q 98 (by decide)⟩
  · exact ⟨⟨#[99]⟩, by decide, by decide, by decide, fun p q => dec1 p q 99 (by decide)⟩
  · exact ⟨⟨#[100]⟩, by decide, by decide, by decide, fun p q => dec1 p q 100 (by decide)⟩
  · exact ⟨⟨#[195, 169]⟩, by decide, by decide, by decide, fun p q => dec2 p q⟩
  · exact ⟨⟨#[230, 151, 165]⟩, by decide, by decide, by decide, fun p q => dec3 p q⟩
  · exact ⟨⟨#[32]⟩, by decide, by decide, by decide, fun p q => dec1 p q 32 (by decide)⟩
  · exact ⟨⟨#[10]⟩, by decide, by decide, by decide, fun p q => dec1 p q 10 (by decide)⟩

/-- what the model reads at a letter's place -/
theorem decode_enc (xs ys : List Int) (r : Int) (h : Alpha r) : Utf8.decode (enc (xs ++ r :: ys)) (enc xs).size = (r.toNat, (Utf8.encode r).size) := by
  obtain ⟨m, hm, _, _, hd⟩ := encode_alpha h
  rw [enc_append, enc, hm, ← ba_assoc]
  exact hd _ _

theorem enc_size_le (xs : List Int) (h : ∀ r ∈ xs, Alpha r) : xs.length ≤ (enc xs).size ∧ (enc xs).size ≤ 3 * xs.length := by
  induction xs with
  | nil => simp [enc]
  | cons x xs ih =>
    obtain ⟨m, hm, h1, h2, _⟩ := encode_alpha (h x (by simp))
    have := ih (fun r hr => h r (by simp [hr]))
    rw [enc, ByteArray.size_append, hm, List.length_cons]
    omega

theorem alpha_nat {r : Int} (h : Alpha r) : Int.ofNat r.toNat = r := by
  rcases h with rfl | rfl | rfl | rfl | rfl | rfl | rfl | rfl <;> rfl

theorem runesFrom_enc (ys : List Int) : ∀ (xs : List Int) (b : Nat) (acc : Array Value), (∀ r ∈ ys, Alpha r) → (enc (xs ++ ys)).size ≤ (enc xs).size + b →
    Conv.runesFrom (enc (xs ++ ys)) b (enc xs).size acc = acc ++ (ys.map (Value.int .i32)).toArray := by
  induction ys with
  | nil =>
    intro xs b acc _ _
    rw [runesFrom_end _ _ _ _ (by simp)]
    simp
  | cons y ys ih =>
    intro xs b acc h hb
    have hy := h y (by simp)
    obtain ⟨m, hm, h1, h2, _⟩ := encode_alpha hy
    have hsz : (enc (xs ++ y :: ys)).size = (enc xs).size + (m.size + (enc ys).size) := by rw [enc_append, enc, ByteArray.size_append, ByteArray.size_append, hm]
    obtain ⟨b, rfl⟩ : ∃ c, b = c + 1 := ⟨b - 1, by omega⟩
    rw [runesFrom_step _ _ _ _ (by omega), decode_enc xs ys y hy]
    have e1 : xs ++ y :: ys = (xs ++ [y]) ++ ys := by simp
    have e2 : (enc xs).size + (Utf8.encode y).size = (enc (xs ++ [y])).size := by rw [enc_snoc, ByteArray.size_append]
    have := ih (xs ++ [y]) b (acc.push (.int .i32 (Int.ofNat y.toNat))) (fun r hr => h r (by simp [hr])) (by rw [← e1, ← e2, hm]; omega)
    rw [← e1, ← e2] at this
    show Conv.runesFrom (enc (xs ++ y :: ys)) b ((enc xs).size + (Utf8.encode y).size) _ = _
    rw [this, alpha_nat hy]
    simp

theorem rv_enc (xs : List Int) (h : ∀ r ∈ xs, Alpha r) : rv (enc xs) = (xs.map (Value.int .i32)).toArray := by
  have := runesFrom_enc xs [] (enc xs).size #[] h (by simp [enc])
  simpa [enc, rv] using this
theorem rl_enc (xs : List Int) (h : ∀ r ∈ xs, Alpha r) : rl (enc xs) = xs.length := by
  unfold rl
  rw [rv_enc xs h]
  simp
theorem letter_alpha (j : Nat) (h : j < 6) : Alpha (letter j) := by
  match j, h with
  | 0, _ => exact .inl rfl
  | 1, _ => exact .inr (.inl rfl)
  | 2, _ => exact .inr (.inr (.inl rfl))
  | 3, _ => exact .inr (.inr (.inr (.inr (.inl rfl))))
  | 4, _ => exact .inr (.inr (.inr (.inr (.inr (.inl rfl)))))
  | 5, _ => exact .inr (.inr (.inr (.inl rfl)))
  | n + 6, h => omega
end Go.Proofs.YtmphoafjeojodaaDoor
