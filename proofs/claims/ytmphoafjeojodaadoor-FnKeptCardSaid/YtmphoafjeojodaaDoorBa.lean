/- spec.Bare: strings.Fields and strings.Join over a text of known letters -/
import Derived.Test.YtmphoafjeojodaaDoorMi
import Derived.Test.YtmphoafjeojodaaDoorSh
namespace Go.Proofs.YtmphoafjeojodaaDoor
open Go.RowKit

/-- the bytes of a text -/
def bts (rs : List Int) : List UInt8 := (enc rs).data.toList
theorem bts_back (b : ByteArray) : (⟨b.data.toList.toArray⟩ : ByteArray) = b := by cases b; simp
theorem bts_cons (r : Int) (rs : List Int) : bts (r :: rs) = (Utf8.encode r).data.toList ++ bts rs := by
  unfold bts
  rw [enc, ByteArray.data_append]
  simp
theorem bts_append (a b : List Int) : bts (a ++ b) = bts a ++ bts b := by
  unfold bts
  rw [enc_append, ByteArray.data_append]
  simp
theorem bts_one (r : Int) : bts [r] = (Utf8.encode r).data.toList := by rw [bts_cons]; show _ ++ ([] : List UInt8) = _; simp
theorem bts_length (rs : List Int) : (bts rs).length = (enc rs).size := by unfold bts; simp
theorem decodeL_bts (r : Int) (rs : List Int) (h : Alpha r) : Lib.decodeL (bts (r :: rs)) = (r.toNat, (Utf8.encode r).size) := by
  have := decode_enc [] rs r h
  unfold Lib.decodeL bts
  rw [bts_back]
  exact this
theorem space_alpha {r : Int} (h : Alpha r) : Lib.isSpaceR r.toNat = !ink r := by
  rcases h with rfl | rfl | rfl | rfl | rfl | rfl | rfl | rfl <;> decide

theorem fields_bts (rs : List Int) : ∀ (f : Nat) (cur : List UInt8), AllA' rs → (enc rs).size ≤ f →
    (Lib.fieldsGoD f cur (bts rs)).flatten = cur ++ bts (bareL rs) ∧ (Lib.fieldsGoD f cur (bts rs)).length ≤ rs.length + 1 := by
  induction rs with
  | nil =>
    intro f cur _ _
    have e : bts [] = [] := rfl
    have e2 : bts (bareL []) = [] := rfl
    rw [e, e2, Lib.fieldsGoD_nil]
    by_cases h : cur = []
    · subst h; simp
    · rw [if_neg h]; simp
  | cons r rs ih =>
    intro f cur ha hf
    have hr : Alpha r := ha r (by simp)
    obtain ⟨m, hm, h1, _, _⟩ := encode_alpha hr
    have hsz : (enc (r :: rs)).size = m.size + (enc rs).size := by rw [enc, ByteArray.size_append, hm]
    obtain ⟨f, rfl⟩ : ∃ g, f = g + 1 := ⟨f - 1, by omega⟩
    have hne : bts (r :: rs) ≠ [] := fun e => by have := bts_length (r :: rs); rw [e] at this; simp at this; omega
    have hdr : (bts (r :: rs)).drop (Utf8.encode r).size = bts rs := by
      rw [bts_cons]
      have : (Utf8.encode r).size = (Utf8.encode r).data.toList.length := by simp
      rw [this, List.drop_left]
    have htk : (bts (r :: rs)).take (Utf8.encode r).size = bts [r] := by
      rw [bts_cons, bts_one]
      have : (Utf8.encode r).size = (Utf8.encode r).data.toList.length := by simp
      rw [this, List.take_left]
    have ha2 : AllA' rs := fun x hx => ha x (by simp [hx])
    rw [Lib.fieldsGoD, if_neg hne, decodeL_bts r rs hr, hdr, htk, space_alpha hr]
    cases hi : ink r with
    | false =>
      obtain ⟨q1, q2⟩ := ih f [] ha2 (by omega)
      have hb : bareL (r :: rs) = bareL rs := by unfold bareL; rw [List.filter_cons_of_neg (by rw [hi]; simp)]
      rw [hb]
      simp only [Bool.not_false, if_true]
      by_cases h : cur = []
      · subst h
        simp only [if_true, List.nil_append, List.length_cons]
        exact ⟨by simpa using q1, by omega⟩
      · rw [if_neg h, List.flatten_append, q1]
        simp only [List.length_append, List.length_cons, List.length_nil]
        exact ⟨by simp, by omega⟩
    | true =>
      obtain ⟨q1, q2⟩ := ih f (cur ++ bts [r]) ha2 (by omega)
      have hb : bareL (r :: rs) = r :: bareL rs := by unfold bareL; rw [List.filter_cons_of_pos hi]
      rw [hb]
      simp only [Bool.not_true, Bool.false_eq_true, if_false, List.length_cons]
      refine ⟨?_, by omega⟩
      rw [q1, bts_cons r (bareL rs), bts_one]
      simp

theorem join_flat (xs : List (List UInt8)) : Lib.join xs [] = xs.flatten := by
  cases xs with
  | nil => rfl
  | cons x r => rw [Lib.join_cons]; simp [Lib.joinTail]

/-- the two tables of the library lie as they were laid -/
def Tabs (w : World) : Prop := Lib.TabIs Tryd.prog w "strings.asciiSpace" .u8 Lib.asciiSpaceTab ∧ Lib.WhiteTab 1 w
theorem gSpace : Tryd.prog.globalNamed "strings.asciiSpace" = some 0 := by kernel_rfl
theorem Tabs.below {w w' : World} (h : Tabs w) (hb : Below w.heap.size w w') : Tabs w' := by
  have hlt : 0 < w.heap.size := World.block_lt_of_cell? w _ (h.1.cell gSpace 0 (by rw [Lib.asciiSpaceTab_length]; decide))
  refine ⟨?_, WhiteTab_below h.2 hb⟩
  have h1 := h.1
  unfold Lib.TabIs World.var? at h1 ⊢
  rw [gSpace] at h1 ⊢
  simp only [Option.bind_some] at h1 ⊢
  rw [hb.block 0 hlt]
  exact h1

theorem bare_len (rs : List Int) : (bareL rs).length ≤ rs.length := List.length_filter_le _ _
theorem bare_all {rs : List Int} (h : AllA' rs) : AllA' (bareL rs) := fun r hr => h r (List.mem_filter.1 hr).1

theorem bare_any {rs : List Int} (ha : AllA' rs) (hl : rs.length ≤ 10000) (w : World) (hT : Tabs w) :
    Calls Tryd.prog 5 #[.string (enc rs)] w fun e w' => e = .returned (.string (enc (bareL rs))) ∧ Below w.heap.size w w' := by
  have hsz := (enc_size_le rs ha).2
  obtain ⟨q1, q2⟩ := fields_bts rs ((bts rs).length + 1) [] ha (by rw [bts_length]; omega)
  have hf : Lib.fieldsGoD ((bts rs).length + 1) [] (bts rs) = Lib.fieldsD (enc rs).data.toList := rfl
  rw [hf] at q1 q2
  have hfields := Tryd.strings_Fields_any (enc rs) w (by omega) hT.1 hT.2
  obtain ⟨fs, hfs⟩ : ∃ fs, fs = Lib.fieldsD (enc rs).data.toList := ⟨_, rfl⟩
  rw [← hfs] at q1 q2 hfields
  obtain ⟨s, hs⟩ : ∃ s, s = enc rs := ⟨_, rfl⟩
  obtain ⟨t, ht⟩ : ∃ t, t = enc (bareL rs) := ⟨_, rfl⟩
  have hbl := (enc_size_le _ (bare_all ha)).2
  have hbn := bare_len rs
  have hjoin : ∀ (A : Nat) (W : World), W.ownsRow w.heap.size 9 1 (.slice (some ⟨A, 0, none⟩) fs.length fs.length) fs.length (fs.map fun x => Value.string ⟨x.toArray⟩) →
      Calls Tryd.prog 10 #[.slice (some ⟨A, 0, none⟩) fs.length fs.length, .string ⟨#[]⟩] W fun e w' => e = .returned (.string t) ∧ Below W.heap.size W w' := fun A W hown => by
    have hj := Tryd.strings_Join A 0 fs.length (fs.map fun x => (⟨x.toArray⟩ : ByteArray)) ⟨#[]⟩ W (fun j x hx => by
      have hj1 : j < fs.length := by have := (List.getElem?_eq_some_iff.1 hx).1; simpa using this
      have := hown.cellAt j (by simpa using hj1)
      rw [Nat.zero_add, this]
      rw [List.getElem?_map] at hx ⊢
      cases hq : fs[j]? with
      | none => rw [hq] at hx; cases hx
      | some l => rw [hq] at hx; simp at hx; subst hx; rfl) (hown.lt A rfl).2 (by simp; omega) (by simp) (by
        show (Lib.join ((fs.map fun x => (⟨x.toArray⟩ : ByteArray)).map (·.data.toList)) []).length ≤ _
        rw [join_flat, List.map_map]
        have e : ((·.data.toList) ∘ fun x : List UInt8 => (⟨x.toArray⟩ : ByteArray)) = id := by funext x; simp
        rw [e, List.map_id, q1, List.nil_append, bts_length]
        omega)
    rw [List.length_map] at hj
    refine hj.mono fun e w' ⟨he, hb⟩ => ⟨?_, hb⟩
    rw [he]
    have e2 : (⟨(Lib.join ((fs.map fun x => (⟨x.toArray⟩ : ByteArray)).map (·.data.toList)) []).toArray⟩ : ByteArray) = t := by
      rw [join_flat, List.map_map]
      have e : ((·.data.toList) ∘ fun x : List UInt8 => (⟨x.toArray⟩ : ByteArray)) = id := by funext x; simp
      rw [e, List.map_id, q1, List.nil_append, ht]
      exact bts_back _
    exact congrArg (fun s => Ending.returned (Value.string s)) e2
  rw [← hs] at hfields ⊢
  rw [← ht]
  have HF := Lib.hid hfields
  have HJ := Lib.hid hjoin
  clear hfields hjoin hs ht hfs q1 q2 hf hbl hbn hsz
  go_enter Tryd.func5, Tryd.ntmps5
  go_wp2_with fail
  refine HF.out.mono ?_
  rintro e w1 ⟨A, rfl, hA, hown, hb1⟩
  go_wp2_with fail
  refine (HJ.out A _ hown).mono ?_
  rintro e w2 ⟨rfl, hb2⟩
  go_wp2
  go_ret
  exact ⟨rfl, hb1.trans (hb2.mono hb1.size)⟩
end Go.Proofs.YtmphoafjeojodaaDoor
