/- how words are wrapped, in plain lists -/
namespace Go.Proofs.YtmphoafjeojodaaDoor

/-- what lies in the three buffers, and the length of the line -/
structure WS where
  out : List Int
  cur : Nat
  word : List Int
  sp : List Int

def stepW (lim : Nat) (s : WS) (c : Int) : WS :=
  if c = 10 then
    if s.word = [] then ⟨(if lim < s.cur + s.sp.length then s.out else s.out ++ s.sp) ++ [10], 0, [], []⟩
    else ⟨s.out ++ s.sp ++ s.word ++ [10], 0, [], []⟩
  else if c = 32 then
    if s.sp = [] ∨ s.word ≠ [] then ⟨s.out ++ s.sp ++ s.word, s.cur + (s.sp.length + s.word.length), [], [32]⟩
    else ⟨s.out, s.cur, s.word, s.sp ++ [32]⟩
  else
    if lim < s.cur + (s.word.length + 1) + s.sp.length ∧ s.word.length + 1 < lim then ⟨s.out ++ [10], 0, s.word ++ [c], []⟩
    else ⟨s.out, s.cur, s.word ++ [c], s.sp⟩

def finishW (lim : Nat) (s : WS) : List Int :=
  if s.word = [] then (if s.cur + s.sp.length ≤ lim then s.out ++ s.sp else s.out) else s.out ++ s.sp ++ s.word

def runW (lim : Nat) (s : WS) (rs : List Int) : WS := rs.foldl (stepW lim) s
def wrapL (lim : Nat) (rs : List Int) : List Int := finishW lim (runW lim ⟨[], 0, [], []⟩ rs)

theorem runW_cons (lim : Nat) (s : WS) (c : Int) (rs : List Int) : runW lim s (c :: rs) = runW lim (stepW lim s c) rs := rfl
theorem runW_append (lim : Nat) (s : WS) (a b : List Int) : runW lim s (a ++ b) = runW lim (runW lim s a) b := by unfold runW; rw [List.foldl_append]

/-- what has been written before stays ahead -/
theorem stepW_pre (lim : Nat) (o : List Int) (s : WS) (c : Int) : stepW lim ⟨o ++ s.out, s.cur, s.word, s.sp⟩ c = ⟨o ++ (stepW lim s c).out, (stepW lim s c).cur, (stepW lim s c).word, (stepW lim s c).sp⟩ := by
  unfold stepW
  by_cases h1 : c = 10
  · simp only [h1, if_true]
    by_cases h2 : s.word = []
    · simp only [h2, if_true]
      by_cases h3 : lim < s.cur + s.sp.length <;> simp [h3]
    · simp [h2]
  · simp only [h1, if_false]
    by_cases h2 : c = 32
    · simp only [h2, if_true]
      by_cases h3 : s.sp = [] ∨ s.word ≠ []
      · simp [h3]
      · simp [h3]
    · simp only [h2, if_false]
      by_cases h3 : lim < s.cur + (s.word.length + 1) + s.sp.length ∧ s.word.length + 1 < lim <;> simp [h3]

theorem runW_pre (lim : Nat) (o : List Int) (rs : List Int) : ∀ s : WS, runW lim ⟨o ++ s.out, s.cur, s.word, s.sp⟩ rs = ⟨o ++ (runW lim s rs).out, (runW lim s rs).cur, (runW lim s rs).word, (runW lim s rs).sp⟩ := by
  induction rs with
  | nil => intro s; rfl
  | cons c rs ih =>
    intro s
    rw [runW_cons, runW_cons, stepW_pre]
    exact ih (stepW lim s c)

theorem finishW_pre (lim : Nat) (o : List Int) (s : WS) : finishW lim ⟨o ++ s.out, s.cur, s.word, s.sp⟩ = o ++ finishW lim s := by
  unfold finishW
  by_cases h : s.word = []
  · by_cases h2 : s.cur + s.sp.length ≤ lim <;> simp [h, h2]
  · simp [h]

/-- a newline ends a line: what is behind it begins anew -/
theorem step_newline (lim : Nat) (s : WS) : stepW lim s 10 = ⟨finishW lim s ++ [10], 0, [], []⟩ := by
  unfold stepW finishW
  simp only [if_true]
  by_cases h : s.word = []
  · simp only [h, if_true]
    by_cases h2 : lim < s.cur + s.sp.length
    · rw [if_pos h2, if_neg (by omega)]
    · rw [if_neg h2, if_pos (by omega)]
  · simp only [h, if_false]

/-- LINES ARE WRAPPED ONE BY ONE -/
theorem wrap_lines (lim : Nat) (x y : List Int) : wrapL lim (x ++ 10 :: y) = wrapL lim x ++ [10] ++ wrapL lim y := by
  unfold wrapL
  rw [runW_append, runW_cons, step_newline]
  have := runW_pre lim (finishW lim (runW lim ⟨[], 0, [], []⟩ x) ++ [10]) y ⟨[], 0, [], []⟩
  simp only [List.append_nil] at this
  rw [this, finishW_pre]

/-- NO LETTER IS LOST, AND NONE COMES -/
def ink (c : Int) : Bool := c ≠ 10 ∧ c ≠ 32
def bareL (rs : List Int) : List Int := rs.filter ink
def White (rs : List Int) : Prop := ∀ c ∈ rs, c = 10 ∨ c = 32
theorem bareL_white {rs : List Int} (h : White rs) : bareL rs = [] := by
  unfold bareL
  rw [List.filter_eq_nil_iff]
  intro c hc
  rcases h c hc with rfl | rfl <;> decide
theorem bareL_append (a b : List Int) : bareL (a ++ b) = bareL a ++ bareL b := List.filter_append ..
theorem stepW_kept (lim : Nat) (s : WS) (c : Int) (h : White s.sp) : White (stepW lim s c).sp ∧
    bareL (stepW lim s c).out ++ bareL (stepW lim s c).word = bareL s.out ++ bareL s.word ++ bareL [c] := by
  have hsp := bareL_white h
  have h10 : bareL [10] = [] := by decide
  have h32 : bareL [32] = [] := by decide
  have hn : bareL [] = [] := rfl
  have hwn : White [] := fun c hc => by cases hc
  unfold stepW
  by_cases h1 : c = 10
  · subst h1
    simp only [if_true]
    by_cases h2 : s.word = []
    · simp only [h2, if_true]
      refine ⟨hwn, ?_⟩
      by_cases h3 : lim < s.cur + s.sp.length
      · simp [h3, bareL_append, h10, hn]
      · simp [h3, bareL_append, h10, hn, hsp]
    · simp only [h2, if_false]
      exact ⟨hwn, by simp [bareL_append, h10, hn, hsp]⟩
  · simp only [h1, if_false]
    by_cases h2 : c = 32
    · subst h2
      simp only [if_true]
      by_cases h3 : s.sp = [] ∨ s.word ≠ []
      · rw [if_pos h3]
        exact ⟨fun c hc => by simp at hc; exact .inr hc, by simp [bareL_append, h32, hn, hsp]⟩
      · rw [if_neg h3]
        refine ⟨fun c hc => ?_, by simp [h32]⟩
        simp at hc
        rcases hc with hc | hc
        · exact h c hc
        · exact .inr hc
    · simp only [h2, if_false]
      by_cases h3 : lim < s.cur + (s.word.length + 1) + s.sp.length ∧ s.word.length + 1 < lim
      · rw [if_pos h3]
        exact ⟨hwn, by simp [bareL_append, h10]⟩
      · rw [if_neg h3]
        exact ⟨h, by simp [bareL_append]⟩
theorem runW_kept (lim : Nat) (rs : List Int) : ∀ s : WS, White s.sp → White (runW lim s rs).sp ∧ bareL (runW lim s rs).out ++ bareL (runW lim s rs).word = bareL s.out ++ bareL s.word ++ bareL rs := by
  induction rs with
  | nil => intro s h; exact ⟨h, by simp [runW, bareL]⟩
  | cons c rs ih =>
    intro s h
    obtain ⟨h1, h2⟩ := stepW_kept lim s c h
    obtain ⟨h3, h4⟩ := ih _ h1
    refine ⟨h3, ?_⟩
    rw [runW_cons, h4, h2, show c :: rs = [c] ++ rs from rfl, bareL_append]
    simp
theorem wrap_kept (lim : Nat) (rs : List Int) : bareL (wrapL lim rs) = bareL rs := by
  obtain ⟨h1, h2⟩ := runW_kept lim rs ⟨[], 0, [], []⟩ (fun c hc => by cases hc)
  have hsp := bareL_white h1
  have hn : bareL [] = [] := rfl
  simp only [hn, List.nil_append] at h2
  unfold wrapL finishW
  by_cases hw : (runW lim ⟨[], 0, [], []⟩ rs).word = []
  · rw [if_pos hw]
    rw [hw, hn, List.append_nil] at h2
    split
    · rw [bareL_append, hsp, List.append_nil, h2]
    · exact h2
  · rw [if_neg hw, bareL_append, bareL_append, hsp, List.append_nil, h2]

/-! words with one blank between -/
/-- a word: at least one letter, no blank, no newline -/
def Word (w : List Int) : Prop := w ≠ [] ∧ ∀ c ∈ w, c ≠ 10 ∧ c ≠ 32
def tailJ : List (List Int) → List Int
  | [] => []
  | w :: ws => 32 :: (w ++ tailJ ws)
/-- words with one blank between -/
def joinL : List (List Int) → List Int
  | [] => []
  | w :: ws => w ++ tailJ ws
/-- the words behind the first, each in the line of the word ahead if there is room -/
def specTail (lim : Nat) : Nat → List (List Int) → List Int
  | _, [] => []
  | long, w :: ws => if long + 1 + w.length ≤ lim then 32 :: (w ++ specTail lim (long + 1 + w.length) ws) else 10 :: (w ++ specTail lim w.length ws)
def specL (lim : Nat) : List (List Int) → List Int
  | [] => []
  | w :: ws => w ++ specTail lim w.length ws

/-- the letters of a word, where none of them breaks the line -/
theorem run_letters (lim : Nat) (w : List Int) : ∀ (s : WS), (∀ c ∈ w, c ≠ 10 ∧ c ≠ 32) → (∀ i, 1 ≤ i → i ≤ w.length → ¬ (lim < s.cur + (s.word.length + i) + s.sp.length ∧ s.word.length + i < lim)) →
    runW lim s w = ⟨s.out, s.cur, s.word ++ w, s.sp⟩ := by
  induction w with
  | nil => intro s _ _; cases s; simp [runW]
  | cons c w ih =>
    intro s h hb
    have hc := h c (by simp)
    have h1 : stepW lim s c = ⟨s.out, s.cur, s.word ++ [c], s.sp⟩ := by
      unfold stepW
      rw [if_neg hc.1, if_neg hc.2, if_neg (hb 1 (by omega) (by simp))]
    rw [runW_cons, h1, ih _ (fun x hx => h x (by simp [hx])) (fun i hi hl => by
      have := hb (i + 1) (by omega) (by simp; omega)
      simp only [List.length_append, List.length_cons, List.length_nil]
      rw [show s.word.length + (0 + 1) + i = s.word.length + (i + 1) from by omega]
      exact this)]
    simp

/-- the letters of a word behind a blank: they go into the line if there is room, else into the next one -/
theorem run_word (lim : Nat) (hlim : 2 ≤ lim) (out : List Int) (long : Nat) (hlong : 1 ≤ long) (w : List Int) (hw : Word w) :
    ∃ sp cur, runW lim ⟨out, long, [], [32]⟩ w = ⟨(if long + 1 + w.length ≤ lim then out else out ++ [10]), cur, w, sp⟩ ∧
      (if long + 1 + w.length ≤ lim then sp = [32] ∧ cur = long else sp = [] ∧ cur = 0) := by
  by_cases hfit : long + 1 + w.length ≤ lim
  · refine ⟨[32], long, ?_, by rw [if_pos hfit]; exact ⟨rfl, rfl⟩⟩
    rw [if_pos hfit, run_letters lim w ⟨out, long, [], [32]⟩ hw.2 (fun i h1 h2 => by simp; omega)]
    simp
  · refine ⟨[], 0, ?_, by rw [if_neg hfit]; exact ⟨rfl, rfl⟩⟩
    rw [if_neg hfit]
    -- the first letter at which the line breaks
    have hwl : 1 ≤ w.length := by cases w with | nil => exact absurd rfl hw.1 | cons c w => simp
    obtain ⟨k, hk1, hk2, hk3⟩ : ∃ k, 1 ≤ k ∧ k ≤ w.length ∧ (lim < long + k + 1 ∧ k < lim) ∧ ∀ i, 1 ≤ i → i < k → ¬ (lim < long + i + 1 ∧ i < lim) := by
      by_cases hl : lim ≤ long + 1
      · exact ⟨1, by omega, hwl, ⟨by omega, by omega⟩, fun i h1 h2 => by omega⟩
      · exact ⟨lim - long, by omega, by omega, ⟨by omega, by omega⟩, fun i h1 h2 => by omega⟩
    have hsplit : w = w.take (k - 1) ++ (w[k - 1]'(by omega)) :: w.drop k := by
      have := List.take_append_drop (k - 1) w
      have h2 : w.drop (k - 1) = (w[k - 1]'(by omega)) :: w.drop k := by
        have := List.drop_eq_getElem_cons (show k - 1 < w.length by omega)
        rw [this, show k - 1 + 1 = k from by omega]
      rw [h2] at this
      exact this.symm
    have ht : (w.take (k - 1)).length = k - 1 := by simp; omega
    have hc := hw.2 (w[k - 1]'(by omega)) (List.getElem_mem _)
    have hstep : stepW lim ⟨out, long, w.take (k - 1), [32]⟩ (w[k - 1]'(by omega)) = ⟨out ++ [10], 0, w.take (k - 1) ++ [w[k - 1]'(by omega)], []⟩ := by
      unfold stepW
      rw [if_neg hc.1, if_neg hc.2, if_pos (by simp only [ht, List.length_cons, List.length_nil]; omega)]
    have hrun : runW lim ⟨out, long, [], [32]⟩ (w.take (k - 1) ++ (w[k - 1]'(by omega)) :: w.drop k) = ⟨out ++ [10], 0, w, []⟩ := by
      rw [runW_append, run_letters lim (w.take (k - 1)) ⟨out, long, [], [32]⟩ (fun x hx => hw.2 x (List.mem_of_mem_take hx)) (fun i h1 h2 => by
        rw [ht] at h2
        have := hk3.2 i h1 (by omega)
        simp only [List.length_nil, List.length_cons]
        omega)]
      show runW lim ⟨out, long, [] ++ w.take (k - 1), [32]⟩ _ = _
      rw [List.nil_append, runW_cons, hstep, run_letters lim (w.drop k) _ (fun x hx => hw.2 x (List.mem_of_mem_drop hx)) (fun i h1 h2 => by simp; omega)]
      have : w.take (k - 1) ++ [w[k - 1]'(by omega)] ++ w.drop k = w := by
        rw [List.append_assoc]
        exact hsplit.symm
      rw [this]
    rw [← hsplit] at hrun
    exact hrun

/-- a blank behind a word -/
theorem step_blank (lim : Nat) (out : List Int) (cur : Nat) (w sp : List Int) (hw : w ≠ []) : stepW lim ⟨out, cur, w, sp⟩ 32 = ⟨out ++ sp ++ w, cur + (sp.length + w.length), [], [32]⟩ := by
  unfold stepW
  rw [if_neg (by decide), if_pos rfl, if_pos (.inr hw)]

/-- THE WORDS BEHIND A WORD -/
theorem run_tail (lim : Nat) (hlim : 2 ≤ lim) (ws : List (List Int)) (hws : ∀ w ∈ ws, Word w) : ∀ (out : List Int) (cur : Nat) (w sp : List Int), Word w →
    finishW lim (runW lim ⟨out, cur, w, sp⟩ (tailJ ws)) = out ++ sp ++ w ++ specTail lim (cur + (sp.length + w.length)) ws := by
  induction ws with
  | nil =>
    intro out cur w sp hw
    show finishW lim ⟨out, cur, w, sp⟩ = _
    unfold finishW
    rw [if_neg hw.1]
    simp [specTail]
  | cons v ws ih =>
    intro out cur w sp hw
    have hv := hws v (by simp)
    have hwl : 1 ≤ w.length := by have := hw.1; cases w with | nil => exact absurd rfl this | cons c w => simp
    rw [tailJ, runW_cons, step_blank lim out cur w sp hw.1, runW_append]
    obtain ⟨sp2, cur2, hr, hcase⟩ := run_word lim hlim (out ++ sp ++ w) (cur + (sp.length + w.length)) (by omega) v hv
    rw [hr, ih (fun x hx => hws x (by simp [hx])) _ _ v sp2 hv, specTail]
    by_cases hfit : cur + (sp.length + w.length) + 1 + v.length ≤ lim
    · rw [if_pos hfit] at hcase ⊢
      rw [if_pos hfit]
      obtain ⟨rfl, rfl⟩ := hcase
      simp only [List.length_cons, List.length_nil, List.append_assoc, List.cons_append, List.nil_append]
      rw [show cur + (sp.length + w.length) + (0 + 1 + v.length) = cur + (sp.length + w.length) + 1 + v.length from by omega]
    · rw [if_neg hfit] at hcase ⊢
      rw [if_neg hfit]
      obtain ⟨rfl, rfl⟩ := hcase
      simp

/-- the first word -/
theorem run_first (lim : Nat) (w : List Int) (hw : Word w) : runW lim ⟨[], 0, [], []⟩ w = ⟨[], 0, w, []⟩ := by
  rw [run_letters lim w ⟨[], 0, [], []⟩ hw.2 (fun i h1 h2 => by simp; omega)]
  simp

/-- WORDS WITH ONE BLANK BETWEEN GO INTO THE LINE OF THE WORD AHEAD AS LONG AS THERE IS ROOM -/
theorem wrap_exact (lim : Nat) (hlim : 2 ≤ lim) (ws : List (List Int)) (hws : ∀ w ∈ ws, Word w) : wrapL lim (joinL ws) = specL lim ws := by
  cases ws with
  | nil => rfl
  | cons w ws =>
    have hw := hws w (by simp)
    unfold wrapL
    rw [joinL, runW_append, run_first lim w hw, run_tail lim hlim ws (fun x hx => hws x (by simp [hx])) [] 0 w [] hw]
    simp [specL]

/-- what has been wrapped, wrapped again -/
theorem run_spec (lim : Nat) (hlim : 2 ≤ lim) (ws : List (List Int)) (hws : ∀ w ∈ ws, Word w) : ∀ (out : List Int) (cur : Nat) (w sp : List Int), Word w →
    finishW lim (runW lim ⟨out, cur, w, sp⟩ (specTail lim (cur + (sp.length + w.length)) ws)) = out ++ sp ++ w ++ specTail lim (cur + (sp.length + w.length)) ws := by
  induction ws with
  | nil =>
    intro out cur w sp hw
    show finishW lim ⟨out, cur, w, sp⟩ = _
    unfold finishW
    rw [if_neg hw.1]
    simp [specTail]
  | cons v ws ih =>
    intro out cur w sp hw
    have hv := hws v (by simp)
    have hwl : 1 ≤ w.length := by have := hw.1; cases w with | nil => exact absurd rfl this | cons c w => simp
    rw [specTail]
    by_cases hfit : cur + (sp.length + w.length) + 1 + v.length ≤ lim
    · rw [if_pos hfit, runW_cons, step_blank lim out cur w sp hw.1, runW_append]
      obtain ⟨sp2, cur2, hr, hcase⟩ := run_word lim hlim (out ++ sp ++ w) (cur + (sp.length + w.length)) (by omega) v hv
      rw [if_pos hfit] at hr hcase
      obtain ⟨rfl, rfl⟩ := hcase
      have := ih (fun x hx => hws x (by simp [hx])) (out ++ sp ++ w) (cur + (sp.length + w.length)) v [32] hv
      simp only [List.length_cons, List.length_nil] at this
      rw [show cur + (sp.length + w.length) + (0 + 1 + v.length) = cur + (sp.length + w.length) + 1 + v.length from by omega] at this
      rw [hr, this]
      simp
    · rw [if_neg hfit, runW_cons, step_newline, runW_append]
      have hf : finishW lim ⟨out, cur, w, sp⟩ = out ++ sp ++ w := by unfold finishW; rw [if_neg hw.1]
      rw [hf, run_letters lim v ⟨out ++ sp ++ w ++ [10], 0, [], []⟩ hv.2 (fun i h1 h2 => by simp; omega)]
      have := ih (fun x hx => hws x (by simp [hx])) (out ++ sp ++ w ++ [10]) 0 v [] hv
      simp only [List.length_nil, Nat.zero_add] at this
      show finishW lim (runW lim ⟨out ++ sp ++ w ++ [10], 0, [] ++ v, []⟩ _) = _
      rw [List.nil_append, this]
      simp

/-- WHAT IS WRAPPED STAYS WHEN IT IS WRAPPED AGAIN -/
theorem wrap_still (lim : Nat) (hlim : 2 ≤ lim) (ws : List (List Int)) (hws : ∀ w ∈ ws, Word w) : wrapL lim (wrapL lim (joinL ws)) = wrapL lim (joinL ws) := by
  rw [wrap_exact lim hlim ws hws]
  cases ws with
  | nil => rfl
  | cons w ws =>
    have hw := hws w (by simp)
    unfold wrapL
    rw [specL, runW_append, run_first lim w hw]
    have := run_spec lim hlim ws (fun x hx => hws x (by simp [hx])) [] 0 w [] hw
    simpa using this
end Go.Proofs.YtmphoafjeojodaaDoor
