/- spec.Text -/
import Derived.Test.YtmphoafjeojodaaSx
import Derived.Test.YtmphoafjeojodaaSh
namespace Go.Proofs.Ytmphoafjeojodaa
open Go.RowKit

theorem enc_data_append (a b : ByteArray) : (a ++ b).data.toList = a.data.toList ++ b.data.toList := by rw [ByteArray.data_append]; simp
theorem joinTail_enc (ws : List (List Int)) : Lib.joinTail [32] ((ws.map enc).map (·.data.toList)) = (enc (tailJ ws)).data.toList := by
  induction ws with
  | nil => rfl
  | cons w ws ih =>
    have e : enc (tailJ (w :: ws)) = Utf8.encode 32 ++ (enc w ++ enc (tailJ ws)) := by rw [tailJ, enc, enc_append]
    have e32 : (Utf8.encode 32).data.toList = [32] := by decide
    rw [e, enc_data_append, enc_data_append, e32, ← ih]
    simp [Lib.joinTail]
theorem join_enc (ws : List (List Int)) : Lib.join ((ws.map enc).map (·.data.toList)) [32] = (enc (joinL ws)).data.toList := by
  cases ws with
  | nil => rfl
  | cons w ws =>
    have := joinTail_enc ws
    rw [List.map_cons, List.map_cons, Lib.join_cons, this, joinL, enc_append, enc_data_append]

theorem tail_len (ws : List (List Int)) (h : ∀ l ∈ ws, W7 l) : (tailJ ws).length ≤ 9 * ws.length := by
  induction ws with
  | nil => simp [tailJ]
  | cons w ws ih =>
    have h1 := (h w (by simp)).2.1
    have h2 := ih (fun l hl => h l (by simp [hl]))
    simp only [tailJ, List.length_cons, List.length_append]
    omega
theorem tail_alpha (ws : List (List Int)) (h : ∀ l ∈ ws, W7 l) : AllA' (tailJ ws) := by
  induction ws with
  | nil => exact alla_nil
  | cons w ws ih =>
    have h2 := ih (fun l hl => h l (by simp [hl]))
    have h1 : AllA' w := fun r hr => ((h w (by simp)).2.2 r hr).1
    exact alla_app (alla_one alpha32) (alla_app h1 h2)
theorem join_alpha (ws : List (List Int)) (h : ∀ l ∈ ws, W7 l) : AllA' (joinL ws) ∧ (joinL ws).length ≤ 9 * ws.length := by
  cases ws with
  | nil => exact ⟨alla_nil, by simp [joinL]⟩
  | cons w ws =>
    have h1 : AllA' w := fun r hr => ((h w (by simp)).2.2 r hr).1
    have h3 := (h w (by simp)).2.1
    have h4 := tail_len ws (fun l hl => h l (by simp [hl]))
    exact ⟨alla_app h1 (tail_alpha ws (fun l hl => h l (by simp [hl]))), by simp only [joinL, List.length_cons, List.length_append]; omega⟩
theorem w7_word {ws : List (List Int)} (h : ∀ l ∈ ws, W7 l) : ∀ l ∈ ws, Word l := fun l hl => ⟨(h l hl).1, fun c hc => ((h l hl).2.2 c hc).2⟩

/-- strings.Join(words, " ") -/
theorem join_any {w : World} {B : Nat} {v : Value} {ws : List (List Int)} (hown : w.ownsRow B 9 1 v ws.length (strs ws)) (h : ∀ l ∈ ws, W7 l) (hk : ws.length ≤ 40) :
    Calls Try.prog 45 #[v, .string ⟨#[32]⟩] w fun e w' => e = .returned (.string (enc (joinL ws))) ∧ Below w.heap.size w w' := by
  obtain ⟨hj1, hj2⟩ := join_alpha ws h
  have hsz := (enc_size_le _ hj1).2
  rcases hown.2 with ⟨rfl, h3⟩ | ⟨k, cap, cur, rfl, h4, h5, h6, h7, h8, h9⟩
  · have : ws = [] := List.length_eq_zero_iff.1 h3
    subst this
    exact (Try.strings_Join_none none 0 ⟨#[32]⟩ w).mono fun e w' ⟨he, hw⟩ => ⟨he, hw ▸ Below.refl _ _⟩
  · have hj := join_enc ws
    have hc := Try.strings_Join k 0 cap (ws.map enc) ⟨#[32]⟩ w (fun j x hx => by
        have hx1 : j < ws.length := by have := (List.getElem?_eq_some_iff.1 hx).1; simpa using this
        have := hown.cellAt j (by simpa using hx1)
        rw [Nat.zero_add, this]
        rw [List.getElem?_map] at hx
        unfold strs
        rw [List.getElem?_map]
        cases hq : ws[j]? with
        | none => rw [hq] at hx; cases hx
        | some l => rw [hq] at hx; simp at hx; subst hx; rfl) (lt_of_block h5) (by simp; omega) (by simpa using h6) (by
          show (Lib.join ((ws.map enc).map (·.data.toList)) [32]).length ≤ _
          rw [hj]
          have : (enc (joinL ws)).data.toList.length = (enc (joinL ws)).size := by simp
          omega)
    rw [List.length_map] at hc
    refine hc.mono fun e w' ⟨he, hb⟩ => ⟨?_, hb⟩
    rw [he]
    have e2 : (⟨(Lib.join ((ws.map enc).map (·.data.toList)) [32]).toArray⟩ : ByteArray) = enc (joinL ws) := by rw [hj]
    exact congrArg (fun s => Ending.returned (Value.string s)) e2
end Go.Proofs.Ytmphoafjeojodaa
