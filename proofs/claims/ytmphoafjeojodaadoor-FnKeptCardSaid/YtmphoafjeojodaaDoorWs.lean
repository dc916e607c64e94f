/- wordwrap.WrapString -/
import Derived.Test.YtmphoafjeojodaaDoorSt
import Derived.Test.YtmphoafjeojodaaDoorWr
import Derived.Deep.LoopGhost
namespace Go.Proofs.YtmphoafjeojodaaDoor
open Go.RowKit

def AllA' (l : List Int) : Prop := ∀ r ∈ l, Alpha r

theorem next_enc {w : World} {it : Nat} {xs ys : List Int} {r : Int} (hr : Alpha r) (hi : w.heap[it]? = some (.stringIter (enc (xs ++ r :: ys)) (enc xs).size)) (ty : TypeId) :
    (Instr.next (.pointer (some ⟨it, 0, none⟩)) true ty).run Tryd.prog w = .ok (.tuple #[.bool true, .int .i64 (enc xs).size, .int .i32 r]) (w.iterAt it (enc (xs ++ r :: ys)) (enc (xs ++ [r])).size) := by
  have hp : (enc xs).size < (enc (xs ++ r :: ys)).size := by
    obtain ⟨m, hm, h1, _, _⟩ := encode_alpha hr
    rw [enc_append, enc, ByteArray.size_append, ByteArray.size_append, hm]
    omega
  have := Lib.run_next_any_at (P := Tryd.prog) w it _ _ ty hi hp
  rw [decode_enc xs ys r hr] at this
  have e : (enc (xs ++ [r])).size = (enc xs).size + (Utf8.encode r).size := by rw [enc_snoc, ByteArray.size_append]
  have e2 : ((r.toNat : Nat) : Int) = r := alpha_nat hr
  rw [this, e]
  simp only [e2]

theorem St.iterAt {w0 w : World} {gB gW gS it : Nat} {t : ByteArray} {pos : Nat} {vB vW vS : Value} {sB sW sS : ByteArray} (h : St w0 w gB gW gS it t pos vB vW vS sB sW sS) (hit : w0.heap.size ≤ it) (p : Nat) :
    St w0 (w.iterAt it t p) gB gW gS it t p vB vW vS sB sW sS := by
  have hb : ∀ {g : Nat} {v : Value} {s : ByteArray}, Buf w w0.heap.size g v s → Buf (w.iterAt it t p) w0.heap.size g v s := by
    intro g v s q
    have hne : g ≠ it := fun e => by have := q.1; rw [e, h.iter] at this; simp at this
    refine ⟨by rw [Lib.iterAt_other _ _ _ _ _ hne]; exact q.1, q.2.1, ?_⟩
    rcases q.2.2 with q2 | ⟨k, cap, cur, e1, e2, e3, r⟩
    · exact .inl q2
    · refine .inr ⟨k, cap, cur, e1, e2, ?_, r⟩
      have : k ≠ it := fun e => by rw [e, h.iter] at e3; simp at e3
      rw [Lib.iterAt_other _ _ _ _ _ this]; exact e3
  exact ⟨hb h.b, hb h.k, hb h.s, h.d1, h.d2, h.d3, h.n1, h.n2, h.n3, h.m1, h.m2, h.m3, Lib.iterAt_heap w it t pos p h.iter, Lib.below_iterAt h.below hit t p⟩

theorem alla_nil : AllA' [] := fun _ h => by cases h
theorem alla_app {a b : List Int} (h : AllA' a) (h2 : AllA' b) : AllA' (a ++ b) := fun r hr => by
  rcases List.mem_append.1 hr with q | q
  · exact h r q
  · exact h2 r q
theorem alla_one {r : Int} (h : Alpha r) : AllA' [r] := fun x hx => by simp at hx; subst hx; exact h
theorem alpha10 : Alpha 10 := by unfold Alpha; omega
theorem alpha32 : Alpha 32 := by unfold Alpha; omega

theorem step_all (lim : Nat) (s : WS) (c : Int) (hc : Alpha c) (h1 : AllA' s.out) (h2 : AllA' s.word) (h3 : AllA' s.sp) :
    AllA' (stepW lim s c).out ∧ AllA' (stepW lim s c).word ∧ AllA' (stepW lim s c).sp ∧
    (stepW lim s c).out.length + (stepW lim s c).word.length + (stepW lim s c).sp.length ≤ s.out.length + s.word.length + s.sp.length + 2 ∧
    (stepW lim s c).cur + (stepW lim s c).word.length + (stepW lim s c).sp.length ≤ s.cur + s.word.length + s.sp.length + 1 := by
  have a10 := alla_one alpha10
  have a32 := alla_one alpha32
  have ac := alla_one hc
  have an := alla_nil
  unfold stepW
  split
  · split
    · refine ⟨alla_app ?_ a10, an, an, ?_, ?_⟩
      · split
        · exact h1
        · exact alla_app h1 h3
      · dsimp only; split <;> simp <;> omega
      · simp
    · exact ⟨alla_app (alla_app (alla_app h1 h3) h2) a10, an, an, by simp; omega, by simp⟩
  · split
    · split
      · exact ⟨alla_app (alla_app h1 h3) h2, an, a32, by simp; omega, by simp; omega⟩
      · exact ⟨h1, h2, alla_app h3 a32, by simp; omega, by simp; omega⟩
    · split
      · exact ⟨alla_app h1 a10, alla_app h2 ac, an, by simp; omega, by simp; omega⟩
      · exact ⟨h1, alla_app h2 ac, h3, by simp; omega, by simp; omega⟩

/-- how far the loop is -/
structure At (w0 w : World) (gB gW gS it : Nat) (lim : Nat) (rs : List Int) (i : Nat) (out : List Int) (cur : Nat) (word sp : List Int) : Prop where
  hi : i ≤ rs.length
  run : runW lim ⟨[], 0, [], []⟩ (rs.take i) = ⟨out, cur, word, sp⟩
  st : ∃ vB vW vS, St w0 w gB gW gS it (enc rs) (enc (rs.take i)).size vB vW vS (enc out) (enc word) (enc sp)
  ao : AllA' out
  aw : AllA' word
  aS : AllA' sp
  bo : out.length + word.length + sp.length ≤ 2 * i
  bc : cur + word.length + sp.length ≤ i

theorem At.start {w w1 wr : World} {v : Value} {t : ByteArray} {lim : Nat} {rs : List Int} (hown : w1.ownsRow w.heap.size 5 1 v 0 []) (hgrow : w.grownBy w1 none)
    (hw : wr = (((w1.alloc (.cells #[v] 51)).alloc (.cells #[.slice none 0 0] 51)).alloc (.cells #[.slice none 0 0] 51)).iter t 0) (ht : t = enc rs) :
    At w wr w1.heap.size (w1.heap.size + 1) (w1.heap.size + 1 + 1) (w1.heap.size + 1 + 1 + 1) lim rs 0 [] 0 [] [] := by
  subst hw ht
  have hsz := hgrow.size
  refine ⟨Nat.zero_le _, rfl, ⟨v, .slice none 0 0, .slice none 0 0, ⟨⟨?_, ?_⟩, ⟨?_, ?_⟩, ⟨?_, ?_⟩, (show Apart (.slice none 0 0) v from .inl rfl).symm, (show Apart (.slice none 0 0) v from .inl rfl).symm, .inl rfl, by omega, by omega, by omega, by omega, by omega, by omega, ?_, ?_⟩⟩, alla_nil, alla_nil, alla_nil, by simp, by simp⟩
  · have h1 := heap_alloc_new w1 (.cells #[v] 51)
    unfold World.iter
    rw [Below.heap_alloc _ _ _ (by simp; omega), Below.heap_alloc _ _ _ (by simp; omega), Below.heap_alloc _ _ _ (by simp)]
    exact h1
  · exact (((hown.alloc _).alloc _).alloc _).alloc _
  · have h1 := heap_alloc_new (w1.alloc (.cells #[v] 51)) (.cells #[.slice none 0 0] 51)
    simp only [World.size_alloc] at h1
    unfold World.iter
    rw [Below.heap_alloc _ _ _ (by simp), Below.heap_alloc _ _ _ (by simp)]
    exact h1
  · exact World.ownsRow_nil _ _ _ _
  · have h1 := heap_alloc_new ((w1.alloc (.cells #[v] 51)).alloc (.cells #[.slice none 0 0] 51)) (.cells #[.slice none 0 0] 51)
    simp only [World.size_alloc] at h1
    unfold World.iter
    rw [Below.heap_alloc _ _ _ (by simp)]
    exact h1
  · exact World.ownsRow_nil _ _ _ _
  · have h1 := World.iter_heap (((w1.alloc (.cells #[v] 51)).alloc (.cells #[.slice none 0 0] 51)).alloc (.cells #[.slice none 0 0] 51)) (enc rs) 0
    simp only [World.size_alloc] at h1
    simpa [enc] using h1
  · exact (((((Below.refl _ w).grown hgrow (Nat.le_refl _) (fun j hj => by cases hj)).alloc (by omega) _).alloc (by simp; omega) _).alloc (by simp; omega) _).alloc (by simp; omega) _

theorem At.next {w wr : World} {gB gW gS it lim : Nat} {rs : List Int} {i cur : Nat} {out word sp : List Int} (h : At w wr gB gW gS it lim rs i out cur word sp) (hlt : i < rs.length) (ha : AllA' rs) (hit : w.heap.size ≤ it) :
    ∃ (r : Int) (vB vW vS : Value) (pos pos' : Nat) (W1 : World), Alpha r ∧ (∀ ty, (Instr.next (.pointer (some ⟨it, 0, none⟩)) true ty).run Tryd.prog wr = .ok (.tuple #[.bool true, .int .i64 pos, .int .i32 r]) W1) ∧
      St w W1 gB gW gS it (enc rs) pos' vB vW vS (enc out) (enc word) (enc sp) ∧ wr.iterPos it < pos' ∧ pos' ≤ (enc rs).size ∧
      ∀ w' out' cur' word' sp', stepW lim ⟨out, cur, word, sp⟩ r = ⟨out', cur', word', sp'⟩ → (∃ vB vW vS, St w w' gB gW gS it (enc rs) pos' vB vW vS (enc out') (enc word') (enc sp')) →
        At w w' gB gW gS it lim rs (i + 1) out' cur' word' sp' ∧ w'.iterPos it = pos' := by
  obtain ⟨vB, vW, vS, hst⟩ := h.st
  have hr : Alpha rs[i] := ha _ (List.getElem_mem hlt)
  have e1 : rs = rs.take i ++ rs[i] :: rs.drop (i + 1) := by rw [← List.drop_eq_getElem_cons hlt, List.take_append_drop]
  have e2 : rs.take (i + 1) = rs.take i ++ [rs[i]] := by rw [List.take_add_one, List.getElem?_eq_getElem hlt]; rfl
  have hstep : runW lim ⟨[], 0, [], []⟩ (rs.take (i + 1)) = stepW lim ⟨out, cur, word, sp⟩ rs[i] := by rw [e2, runW_append, h.run]; rfl
  have hit' := hst.iter
  rw [e1] at hit'
  simp only [← e1] at hit'
  refine ⟨rs[i], vB, vW, vS, (enc (rs.take i)).size, (enc (rs.take (i + 1))).size, _, hr, fun ty => ?_, hst.iterAt hit _, ?_, ?_, ?_⟩
  · have hn := next_enc (w := wr) (it := it) (xs := rs.take i) (ys := rs.drop (i + 1)) hr (by rw [← e1]; exact hst.iter) ty
    rw [← e1, ← e2] at hn
    exact hn
  · have : wr.iterPos it = (enc (rs.take i)).size := by simp [World.iterPos, hst.iter]
    obtain ⟨m, hm, q1, _⟩ := encode_alpha hr
    rw [this, e2, enc_snoc, ByteArray.size_append, hm]
    omega
  · have : enc rs = enc (rs.take (i + 1)) ++ enc (rs.drop (i + 1)) := by rw [← enc_append, List.take_append_drop]
    rw [this, ByteArray.size_append]
    omega
  · intro w' out' cur' word' sp' hs ⟨v1, v2, v3, h3⟩
    have := step_all lim ⟨out, cur, word, sp⟩ rs[i] hr h.ao h.aw h.aS
    rw [hs] at this hstep
    obtain ⟨q1, q2, q3, q4, q5⟩ := this
    have b1 := h.bo
    have b2 := h.bc
    dsimp only at q4 q5
    refine ⟨⟨by omega, hstep, ⟨v1, v2, v3, h3⟩, q1, q2, q3, by omega, by omega⟩, ?_⟩
    simp [World.iterPos, h3.iter]

theorem At.last {w wr : World} {gB gW gS it lim : Nat} {rs : List Int} {i cur : Nat} {out word sp : List Int} (h : At w wr gB gW gS it lim rs i out cur word sp) (hlt : ¬ i < rs.length) :
    (∀ ty, (Instr.next (.pointer (some ⟨it, 0, none⟩)) true ty).run Tryd.prog wr = .ok (.tuple #[.bool false]) wr) ∧ (∃ pos vB vW vS, St w wr gB gW gS it (enc rs) pos vB vW vS (enc out) (enc word) (enc sp)) ∧ wrapL lim rs = finishW lim ⟨out, cur, word, sp⟩ := by
  obtain ⟨vB, vW, vS, hst⟩ := h.st
  have hi := h.hi
  have e : rs.take i = rs := List.take_of_length_le (by omega)
  have hr := h.run
  rw [e] at hr hst
  refine ⟨fun ty => ?_, ⟨_, _, _, _, hst⟩, ?_⟩
  · exact Lib.run_next_end_at (P := Tryd.prog) wr it _ _ ty hst.iter (by omega)
  · unfold wrapL; rw [hr]

set_option maxRecDepth 1000000 in
set_option maxHeartbeats 4000000 in
theorem wrapString_any {lim : Nat} (hlim : lim ≤ 1000000) {rs : List Int} (ha : AllA' rs) (hl : rs.length ≤ 10000) (w : World) :
    Calls Tryd.prog 12 #[.string (enc rs), .int .u64 lim] w fun e w' => e = .returned (.string (enc (wrapL lim rs))) ∧ Below w.heap.size w w' := by
  obtain ⟨i0, hi, hz0, hz1, hz2⟩ := info_parts info5
  have hsz := enc_size_le rs ha
  obtain ⟨t, HT⟩ : ∃ t, Hid (t = enc rs) := ⟨_, rfl⟩
  rw [← HT.out] at hsz ⊢
  go_enter Tryd.func12, Tryd.ntmps12
  go_wp2_with (at_make; refine wpList_make_own _ rfl _ _ 22 rfl w.heap.size 5 i0 (.int .u8 0) 1 Tryd.underlying22 hi hz0 hz1 .i64 .i64 _ t.size rfl rfl rfl (by rw [hz2]; omega) (by unfold maxLen; omega) (Nat.le_refl _) ?_; intro w1 hown hgrow)
  go_loopw [7, 10, 11] (fun u1 u2 u3 wr => ∃ (i : Nat) (out : List Int) (cur : Nat) (word sp : List Int), u1 = .int .u64 cur ∧ u2 = .int .u64 word.length ∧ u3 = .int .u64 sp.length ∧
      At w wr w1.heap.size (w1.heap.size + 1) (w1.heap.size + 1 + 1) (w1.heap.size + 1 + 1 + 1) lim rs i out cur word sp) (fun _ _ _ wr => t.size - wr.iterPos (w1.heap.size + 1 + 1 + 1))
  case atStart =>
    exact ⟨0, [], 0, [], [], rfl, rfl, rfl, At.start hown hgrow rfl HT.out⟩
  case round =>
    obtain ⟨i, out, cur, word, sp, rfl, rfl, rfl, hA⟩ := hrel
    have hc := hA.bc
    have ho := hA.bo
    have hii := hA.hi
    have sO := (enc_size_le out hA.ao).2
    have sW := enc_size_le word hA.aw
    have sS := enc_size_le sp hA.aS
    have hw1 := hgrow.size
    clear hown hgrow
    have hz0 : (enc []).size = 0 := rfl
    by_cases hlt : i < rs.length
    · obtain ⟨r, vB, vW, vS, pos, pos', W1, hr, hnx, h0, hm1, hm2, hfin⟩ := hA.next hlt ha (by omega)
      rw [← HT.out] at hm2
      change Hid _ at hfin
      clear hA
      by_cases h10 : r = 10
      · subst h10
        by_cases hw : word = []
        · subst hw
          by_cases hcm : lim < cur + sp.length
          · --P1
            go_wp2_with fail
            refine (len_any h0.k).mono ?_
            rintro e wx ⟨rfl, rfl⟩
            go_wp2_with fail
            refine h0.resetS.mono ?_
            rintro e w3 ⟨rfl, v1, h1⟩
            go_wp2_with fail
            refine (h1.runeB alpha10 (by (try simp only [ByteArray.size_append]); omega)).mono ?_
            rintro e w4 ⟨rfl, v2, h2⟩
            obtain ⟨hA', hp'⟩ := hfin.out w4 (out ++ [10]) 0 [] [] (by simp [stepW, hcm]) ⟨_, _, _, by rw [enc_append, enc_one]; exact h2⟩
            go_wp2
            go_roundw
            case rel => exact ⟨i + 1, _, _, _, _, by first | rfl | go_num, by first | rfl | (simp <;> done) | go_num, by first | rfl | (simp <;> done) | go_num, hA'⟩
            case measure => rw [hp']; omega
          · --P2
            go_wp2_with fail
            refine (len_any h0.k).mono ?_
            rintro e wx ⟨rfl, rfl⟩
            go_wp2_with fail
            refine (h0.toS (by (try simp only [ByteArray.size_append]); omega) (by (try simp only [ByteArray.size_append]); omega)).mono ?_
            rintro e w2 ⟨rfl, v1, v1', h1⟩
            go_wp2_with fail
            refine h1.resetS.mono ?_
            rintro e w3 ⟨rfl, v2, h2⟩
            go_wp2_with fail
            refine (h2.runeB alpha10 (by (try simp only [ByteArray.size_append]); omega)).mono ?_
            rintro e w4 ⟨rfl, v3, h3⟩
            obtain ⟨hA', hp'⟩ := hfin.out w4 (out ++ sp ++ [10]) 0 [] [] (by simp [stepW, hcm]) ⟨_, _, _, by rw [enc_append, enc_append, enc_one]; exact h3⟩
            go_wp2
            go_roundw
            case rel => exact ⟨i + 1, _, _, _, _, by first | rfl | go_num, by first | rfl | (simp <;> done) | go_num, by first | rfl | (simp <;> done) | go_num, hA'⟩
            case measure => rw [hp']; omega
        · --P3
          have hwp : 0 < (enc word).size := by have : 0 < word.length := List.length_pos_iff.2 hw; omega
          have hwn : ¬ enc word = ByteArray.empty := fun e => by rw [e] at hwp; exact absurd hwp (by decide)
          go_wp2_with fail
          refine (len_any h0.k).mono ?_
          rintro e wx ⟨rfl, rfl⟩
          go_wp2_with fail
          refine (h0.toS (by (try simp only [ByteArray.size_append]); omega) (by (try simp only [ByteArray.size_append]); omega)).mono ?_
          rintro e w2 ⟨rfl, v1, v1', h1⟩
          go_wp2_with fail
          refine h1.resetS.mono ?_
          rintro e w3 ⟨rfl, v2, h2⟩
          go_wp2_with fail
          refine (h2.toW (by (try simp only [ByteArray.size_append]); omega) (by (try simp only [ByteArray.size_append]); omega)).mono ?_
          rintro e w4 ⟨rfl, v3, v3', h3⟩
          go_wp2_with fail
          refine h3.resetW.mono ?_
          rintro e w5 ⟨rfl, v4, h4⟩
          go_wp2_with fail
          refine (h4.runeB alpha10 (by (try simp only [ByteArray.size_append]); omega)).mono ?_
          rintro e w6 ⟨rfl, v5, h5⟩
          obtain ⟨hA', hp'⟩ := hfin.out w6 (out ++ sp ++ word ++ [10]) 0 [] [] (by simp [stepW, hw]) ⟨_, _, _, by rw [enc_append, enc_append, enc_append, enc_one]; exact h5⟩
          go_wp2
          go_roundw
          case rel => exact ⟨i + 1, _, _, _, _, by first | rfl | go_num, by first | rfl | (simp <;> done) | go_num, by first | rfl | (simp <;> done) | go_num, hA'⟩
          case measure => rw [hp']; omega
      · by_cases h32 : r = 32
        · subst h32
          by_cases hs : sp = []
          · --P4
            subst hs
            go_wp2_with fail
            refine (space_any alpha32 _).mono ?_
            rintro e wy ⟨rfl, rfl⟩
            go_wp2_with fail
            refine (len_any h0.s).mono ?_
            rintro e wx ⟨rfl, rfl⟩
            go_wp2_with fail
            refine (h0.toS (by (try simp only [ByteArray.size_append]); omega) (by (try simp only [ByteArray.size_append]); omega)).mono ?_
            rintro e w2 ⟨rfl, v1, v1', h1⟩
            go_wp2_with fail
            refine h1.resetS.mono ?_
            rintro e w3 ⟨rfl, v2, h2⟩
            go_wp2_with fail
            refine (h2.toW (by (try simp only [ByteArray.size_append]); omega) (by (try simp only [ByteArray.size_append]); omega)).mono ?_
            rintro e w4 ⟨rfl, v3, v3', h3⟩
            go_wp2_with fail
            refine h3.resetW.mono ?_
            rintro e w5 ⟨rfl, v4, h4⟩
            go_wp2_with fail
            refine (h4.runeS alpha32 (by show (0 : Nat) ≤ 1000000; omega)).mono ?_
            rintro e w6 ⟨rfl, v5, h5⟩
            obtain ⟨hA', hp'⟩ := hfin.out w6 (out ++ word) (cur + word.length) [] [32] (by simp [stepW]) ⟨_, _, _, by rw [enc_append, enc_one]; simpa [enc] using h5⟩
            go_wp2
            go_roundw
            case rel => exact ⟨i + 1, _, _, _, _, by first | rfl | go_num, by first | rfl | (simp <;> done) | go_num, by first | rfl | (simp <;> done) | go_num, hA'⟩
            case measure => rw [hp']; omega
          · by_cases hw : word = []
            · --P6
              have hsp : 0 < (enc sp).size := by have : 0 < sp.length := List.length_pos_iff.2 hs; omega
              have hsn : ¬ enc sp = ByteArray.empty := fun e => by rw [e] at hsp; exact absurd hsp (by decide)
              subst hw
              go_wp2_with fail
              refine (space_any alpha32 _).mono ?_
              rintro e wy ⟨rfl, rfl⟩
              go_wp2_with fail
              refine (len_any h0.s).mono ?_
              rintro e wx ⟨rfl, rfl⟩
              go_wp2_with fail
              refine (len_any h0.k).mono ?_
              rintro e wz ⟨rfl, rfl⟩
              go_wp2_with fail
              refine (h0.runeS alpha32 (by (try simp only [ByteArray.size_append]); omega)).mono ?_
              rintro e w6 ⟨rfl, v5, h5⟩
              obtain ⟨hA', hp'⟩ := hfin.out w6 out cur [] (sp ++ [32]) (by simp [stepW, hs]) ⟨_, _, _, by rw [enc_append, enc_one]; exact h5⟩
              go_wp2
              go_roundw
              case rel => exact ⟨i + 1, _, _, _, _, by first | rfl | go_num, by first | rfl | (simp <;> done) | go_num, by first | rfl | (simp <;> done) | go_num, hA'⟩
              case measure => rw [hp']; omega
            · --P5
              have hwp : 0 < (enc word).size := by have : 0 < word.length := List.length_pos_iff.2 hw; omega
              have hwn : ¬ enc word = ByteArray.empty := fun e => by rw [e] at hwp; exact absurd hwp (by decide)
              have hsp : 0 < (enc sp).size := by have : 0 < sp.length := List.length_pos_iff.2 hs; omega
              have hsn : ¬ enc sp = ByteArray.empty := fun e => by rw [e] at hsp; exact absurd hsp (by decide)
              go_wp2_with fail
              refine (space_any alpha32 _).mono ?_
              rintro e wy ⟨rfl, rfl⟩
              go_wp2_with fail
              refine (len_any h0.s).mono ?_
              rintro e wx ⟨rfl, rfl⟩
              go_wp2_with fail
              refine (len_any h0.k).mono ?_
              rintro e wz ⟨rfl, rfl⟩
              go_wp2_with fail
              refine (h0.toS (by (try simp only [ByteArray.size_append]); omega) (by (try simp only [ByteArray.size_append]); omega)).mono ?_
              rintro e w2 ⟨rfl, v1, v1', h1⟩
              go_wp2_with fail
              refine h1.resetS.mono ?_
              rintro e w3 ⟨rfl, v2, h2⟩
              go_wp2_with fail
              refine (h2.toW (by (try simp only [ByteArray.size_append]); omega) (by (try simp only [ByteArray.size_append]); omega)).mono ?_
              rintro e w4 ⟨rfl, v3, v3', h3⟩
              go_wp2_with fail
              refine h3.resetW.mono ?_
              rintro e w5 ⟨rfl, v4, h4⟩
              go_wp2_with fail
              refine (h4.runeS alpha32 (by show (0 : Nat) ≤ 1000000; omega)).mono ?_
              rintro e w6 ⟨rfl, v5, h5⟩
              obtain ⟨hA', hp'⟩ := hfin.out w6 (out ++ sp ++ word) (cur + (sp.length + word.length)) [] [32] (by simp [stepW, hw]) ⟨_, _, _, by rw [enc_append, enc_append, enc_one]; simpa [enc] using h5⟩
              go_wp2
              go_roundw
              case rel => exact ⟨i + 1, _, _, _, _, by first | rfl | go_num, by first | rfl | (simp <;> done) | go_num, by first | rfl | (simp <;> done) | go_num, hA'⟩
              case measure => rw [hp']; omega
        · have hno : decide (r = 32 ∨ r = 10) = false := by simp [h10, h32]
          by_cases q1 : lim < cur + (word.length + 1) + sp.length
          · by_cases q2 : word.length + 1 < lim
            · --P7
              go_wp2_with fail
              refine (space_any hr _).mono ?_
              rintro e wy ⟨rfl, rfl⟩
              go_wp2_with fail
              refine (h0.runeW hr (by (try simp only [ByteArray.size_append]); omega)).mono ?_
              rintro e w2 ⟨rfl, v1, h1⟩
              go_wp2_with fail
              refine (h1.runeB alpha10 (by (try simp only [ByteArray.size_append]); omega)).mono ?_
              rintro e w3 ⟨rfl, v2, h2⟩
              go_wp2_with fail
              refine h2.resetS.mono ?_
              rintro e w4 ⟨rfl, v3, h3⟩
              obtain ⟨hA', hp'⟩ := hfin.out w4 (out ++ [10]) 0 (word ++ [r]) [] (by simp [stepW, h10, h32, q1, q2]) ⟨_, _, _, by rw [enc_append, enc_append, enc_one, enc_one]; exact h3⟩
              go_wp2
              go_roundw
              case rel => exact ⟨i + 1, _, _, _, _, by first | rfl | go_num, by first | rfl | (simp <;> done) | go_num, by first | rfl | (simp <;> done) | go_num, hA'⟩
              case measure => rw [hp']; omega
            · --P8
              go_wp2_with fail
              refine (space_any hr _).mono ?_
              rintro e wy ⟨rfl, rfl⟩
              go_wp2_with fail
              refine (h0.runeW hr (by (try simp only [ByteArray.size_append]); omega)).mono ?_
              rintro e w2 ⟨rfl, v1, h1⟩
              obtain ⟨hA', hp'⟩ := hfin.out w2 out cur (word ++ [r]) sp (by simp only [stepW, h10, h32, if_false]; rw [if_neg (by omega)]) ⟨_, _, _, by rw [enc_append, enc_one]; exact h1⟩
              go_wp2
              go_roundw
              case rel => exact ⟨i + 1, _, _, _, _, by first | rfl | go_num, by first | rfl | (simp <;> done) | go_num, by first | rfl | (simp <;> done) | go_num, hA'⟩
              case measure => rw [hp']; omega
          · --P9
            go_wp2_with fail
            refine (space_any hr _).mono ?_
            rintro e wy ⟨rfl, rfl⟩
            go_wp2_with fail
            refine (h0.runeW hr (by (try simp only [ByteArray.size_append]); omega)).mono ?_
            rintro e w2 ⟨rfl, v1, h1⟩
            obtain ⟨hA', hp'⟩ := hfin.out w2 out cur (word ++ [r]) sp (by simp only [stepW, h10, h32, if_false]; rw [if_neg (by omega)]) ⟨_, _, _, by rw [enc_append, enc_one]; exact h1⟩
            go_wp2
            go_roundw
            case rel => exact ⟨i + 1, _, _, _, _, by first | rfl | go_num, by first | rfl | (simp <;> done) | go_num, by first | rfl | (simp <;> done) | go_num, hA'⟩
            case measure => rw [hp']; omega
    · obtain ⟨hnx, ⟨pos, vB, vW, vS, h0⟩, hfe⟩ := hA.last hlt
      have HFE : Hid (wrapL lim rs = _) := hfe
      clear hA
      by_cases hw : word = []
      · subst hw
        by_cases hcm : cur + sp.length ≤ lim
        · --L1
          go_wp2_with fail
          refine (len_any h0.k).mono ?_
          rintro e wx ⟨rfl, rfl⟩
          go_wp2_with fail
          refine (h0.toS (by (try simp only [ByteArray.size_append]); omega) (by (try simp only [ByteArray.size_append]); omega)).mono ?_
          rintro e w2 ⟨rfl, v1, v1', h9⟩
          go_wp2_with fail
          refine (string_any h9.b).mono ?_
          rintro e wq ⟨rfl, rfl⟩
          go_wp2
          go_ret
          exact ⟨by rw [hfe]; unfold finishW; rw [if_pos rfl, if_pos hcm, enc_append]; (try rfl), h9.below⟩
        · --L2
          go_wp2_with fail
          refine (len_any h0.k).mono ?_
          rintro e wx ⟨rfl, rfl⟩
          go_wp2_with fail
          refine (string_any h0.b).mono ?_
          rintro e wq ⟨rfl, rfl⟩
          go_wp2
          go_ret
          exact ⟨by rw [hfe]; unfold finishW; rw [if_pos rfl, if_neg hcm]; (try rfl), h0.below⟩
      · --L3
        have hwp : 0 < (enc word).size := by have : 0 < word.length := List.length_pos_iff.2 hw; omega
        have hwn : ¬ enc word = ByteArray.empty := fun e => by rw [e] at hwp; exact absurd hwp (by decide)
        go_wp2_with fail
        refine (len_any h0.k).mono ?_
        rintro e wx ⟨rfl, rfl⟩
        go_wp2_with fail
        refine (h0.toS (by (try simp only [ByteArray.size_append]); omega) (by (try simp only [ByteArray.size_append]); omega)).mono ?_
        rintro e w2 ⟨rfl, v1, v1', h1⟩
        go_wp2_with fail
        refine (h1.toW (by (try simp only [ByteArray.size_append]); omega) (by (try simp only [ByteArray.size_append]); omega)).mono ?_
        rintro e w3 ⟨rfl, v2, v2', h9⟩
        go_wp2_with fail
        refine (string_any h9.b).mono ?_
        rintro e wq ⟨rfl, rfl⟩
        go_wp2
        go_ret
        exact ⟨by rw [hfe]; unfold finishW; rw [if_neg hw, enc_append, enc_append]; (try rfl), h9.below⟩
end Go.Proofs.YtmphoafjeojodaaDoor
