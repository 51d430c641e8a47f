/-
  THE PLAIN LAW of 'cutHyphen', with no Go in sight: words of a list of bytes.
-/
namespace Go.Proofs.Qxb6619230a
set_option linter.unusedSimpArgs false

/-- White space: a space, or a byte from tab to carriage return. -/
def sp (c : UInt8) : Bool := decide (c.toNat = 32 ∨ (9 ≤ c.toNat ∧ c.toNat ≤ 13))
def nsp (c : UInt8) : Bool := !sp c

/-- The first word, and what follows it. -/
def cutW (l : List UInt8) : List UInt8 × List UInt8 := ((l.dropWhile sp).takeWhile nsp, (l.dropWhile sp).dropWhile nsp)

/-- The first m words. -/
def wordsN : Nat → List UInt8 → List (List UInt8)
  | 0, _ => []
  | m + 1, l => if (cutW l).1 = [] then [] else (cutW l).1 :: wordsN m (cutW l).2

theorem dropWhile_eq (p : UInt8 → Bool) (l : List UInt8) : l.dropWhile p = l.drop (l.takeWhile p).length := by
  induction l with
  | nil => rfl
  | cons c l ih =>
    cases h : p c with
    | true => simp [List.dropWhile_cons, List.takeWhile_cons, h, ih]
    | false => simp [List.dropWhile_cons, List.takeWhile_cons, h]
theorem takeWhile_eq (p : UInt8 → Bool) (l : List UInt8) : l.takeWhile p = l.take (l.takeWhile p).length := by
  induction l with
  | nil => rfl
  | cons c l ih =>
    cases h : p c with
    | true => simp only [List.takeWhile_cons, h, if_true, List.length_cons, List.take_succ_cons]; rw [← ih]
    | false => simp [List.takeWhile_cons, h]
theorem takeWhile_le (p : UInt8 → Bool) (l : List UInt8) : (l.takeWhile p).length ≤ l.length := by
  have := congrArg List.length (takeWhile_eq p l)
  rw [List.length_take] at this
  omega
theorem tw_lt (p : UInt8 → Bool) (l : List UInt8) : ∀ j, j < (l.takeWhile p).length → ∀ (h : j < l.length), p l[j] = true := by
  induction l with
  | nil => intro j h; simp at h
  | cons c l ih =>
    intro j h hl
    cases hc : p c with
    | false => simp [List.takeWhile_cons, hc] at h
    | true =>
      cases j with
      | zero => simpa using hc
      | succ j =>
        simp [List.takeWhile_cons, hc] at h
        simpa using ih j h (by simpa using hl)
theorem tw_end (p : UInt8 → Bool) (l : List UInt8) : ∀ (h : (l.takeWhile p).length < l.length), p l[(l.takeWhile p).length] = false := by
  induction l with
  | nil => intro h; simp at h
  | cons c l ih =>
    intro h
    cases hc : p c with
    | false => simp [List.takeWhile_cons, hc]
    | true =>
      have e : ((c :: l).takeWhile p).length = (l.takeWhile p).length + 1 := by simp [List.takeWhile_cons, hc]
      simp only [e]
      rw [e] at h
      simpa using ih (by simpa using h)

/-- Where the first word begins and ends. -/
def wI (l : List UInt8) : Nat := (l.takeWhile sp).length
def wJ (l : List UInt8) : Nat := wI l + ((l.drop (wI l)).takeWhile nsp).length

theorem wI_le (l : List UInt8) : wI l ≤ l.length := takeWhile_le _ _
theorem wI_wJ (l : List UInt8) : wI l ≤ wJ l := Nat.le_add_right _ _
theorem wJ_le (l : List UInt8) : wJ l ≤ l.length := by
  have h1 := wI_le l
  have h2 := takeWhile_le nsp (l.drop (wI l))
  rw [List.length_drop] at h2
  unfold wJ; omega
theorem cutW_eq (l : List UInt8) : cutW l = ((l.drop (wI l)).take (wJ l - wI l), l.drop (wJ l)) := by
  unfold cutW
  rw [dropWhile_eq sp l]
  have e1 := takeWhile_eq nsp (l.drop (wI l))
  have e2 := dropWhile_eq nsp (l.drop (wI l))
  have e3 : wJ l - wI l = ((l.drop (wI l)).takeWhile nsp).length := by unfold wJ; omega
  show ((l.drop (wI l)).takeWhile nsp, (l.drop (wI l)).dropWhile nsp) = _
  rw [e2, e3, ← e1, List.drop_drop]
  rfl
theorem before_I {l : List UInt8} {j : Nat} (h : j < wI l) (hl : j < l.length) : sp l[j] = true := tw_lt sp l j h hl
theorem at_I {l : List UInt8} (h : wI l < l.length) : sp l[wI l] = false := tw_end sp l h
theorem before_J {l : List UInt8} {j : Nat} (h0 : wI l ≤ j) (h : j < wJ l) (hl : j < l.length) : sp l[j] = false := by
  have := tw_lt nsp (l.drop (wI l)) (j - wI l) (by unfold wJ at h; omega) (by rw [List.length_drop]; omega)
  rw [List.getElem_drop] at this
  have e : wI l + (j - wI l) = j := by omega
  simp only [e] at this
  simpa [nsp] using this
theorem at_J {l : List UInt8} (h : wJ l < l.length) : sp l[wJ l] = true := by
  have := tw_end nsp (l.drop (wI l)) (by rw [List.length_drop]; unfold wJ at h; have := wI_le l; omega)
  rw [List.getElem_drop] at this
  have h2 : nsp l[wJ l] = false := this
  simpa [nsp] using h2

/-! ### the words, step by step -/
theorem cutW_space {c : UInt8} {t : List UInt8} (h : sp c = true) : cutW (c :: t) = cutW t := by
  unfold cutW; simp [List.dropWhile_cons, h]
theorem cutW_nil : cutW [] = ([], []) := rfl
theorem cutW_word {c : UInt8} {t : List UInt8} (h : sp c = false) : cutW (c :: t) = ((c :: t).takeWhile nsp, (c :: t).dropWhile nsp) := by
  unfold cutW; simp [List.dropWhile_cons, h]
theorem wordsN_space {c : UInt8} {t : List UInt8} (h : sp c = true) (m : Nat) : wordsN m (c :: t) = wordsN m t := by
  cases m with
  | zero => rfl
  | succ m => simp only [wordsN, cutW_space h]
theorem wordsN_nil (m : Nat) : wordsN m [] = [] := by cases m <;> simp [wordsN, cutW_nil]
theorem wordsN_word {c : UInt8} {t : List UInt8} (h : sp c = false) (m : Nat) : wordsN (m + 1) (c :: t) = (c :: t).takeWhile nsp :: wordsN m ((c :: t).dropWhile nsp) := by
  have hn : (c :: t).takeWhile nsp ≠ [] := by simp [List.takeWhile_cons, nsp, h]
  simp only [wordsN, cutW_word h]
  rw [if_neg hn]
theorem wordsN_le : ∀ (m : Nat) (l : List UInt8), (wordsN m l).length ≤ m
  | 0, _ => by simp [wordsN]
  | m + 1, l => by
    unfold wordsN
    split
    · simp
    · have := wordsN_le m (cutW l).2
      simp; omega

theorem dropWhile_nil_of (l : List UInt8) (h : (l.dropWhile sp).takeWhile nsp = []) : l.dropWhile sp = [] := by
  cases hd : l.dropWhile sp with
  | nil => rfl
  | cons c t =>
    rw [hd] at h
    have : sp c = false := by
      have hh := List.head_dropWhile_not (p := sp) (l := l) (by rw [hd]; simp)
      simp only [hd, List.head_cons] at hh
      simpa using hh
    simp [List.takeWhile_cons, nsp, this] at h
theorem cut_empty {l : List UInt8} (h : (cutW l).1 = []) : (cutW l).2 = [] := by
  have h' : (l.dropWhile sp).takeWhile nsp = [] := h
  have := dropWhile_nil_of l h'
  show (l.dropWhile sp).dropWhile nsp = []
  rw [this]; rfl

/-- The first four words, one after the other. -/
def w1 (l : List UInt8) := (cutW l).1
def r1 (l : List UInt8) := (cutW l).2
theorem w1_nil : w1 [] = [] := rfl
theorem r1_nil : r1 [] = [] := rfl
theorem r1_empty {l : List UInt8} (h : w1 l = []) : r1 l = [] := cut_empty h

theorem words0 (l : List UInt8) : (wordsN 4 l).getD 0 [] = w1 l := by
  simp only [wordsN, w1]
  split
  · rename_i h; rw [h]; rfl
  · rfl
theorem words1 (l : List UInt8) : (wordsN 4 l).getD 1 [] = w1 (r1 l) := by
  simp only [wordsN, w1, r1]
  by_cases h1 : (cutW l).1 = []
  · rw [if_pos h1, cut_empty h1]; rfl
  · rw [if_neg h1]
    by_cases h2 : (cutW (cutW l).2).1 = []
    · rw [if_pos h2, h2]; rfl
    · rw [if_neg h2]; rfl
theorem words2 (l : List UInt8) : (wordsN 4 l).getD 2 [] = w1 (r1 (r1 l)) := by
  simp only [wordsN, w1, r1]
  by_cases h1 : (cutW l).1 = []
  · rw [if_pos h1, cut_empty h1]; rfl
  · rw [if_neg h1]
    by_cases h2 : (cutW (cutW l).2).1 = []
    · rw [if_pos h2, cut_empty h2]; rfl
    · rw [if_neg h2]
      by_cases h3 : (cutW (cutW (cutW l).2).2).1 = []
      · rw [if_pos h3, h3]; rfl
      · rw [if_neg h3]; rfl

/-- Two or three words, where the second is a hyphen: the fourth is empty. -/
theorem count_ok (l : List UInt8) (h : w1 (r1 l) ≠ []) : ((wordsN 4 l).length = 2 ∨ (wordsN 4 l).length = 3) ↔ w1 (r1 (r1 (r1 l))) = [] := by
  simp only [wordsN, w1, r1] at h ⊢
  have h1 : (cutW l).1 ≠ [] := by
    intro e; rw [cut_empty e] at h; exact h rfl
  rw [if_neg h1, if_neg h]
  by_cases h3 : (cutW (cutW (cutW l).2).2).1 = []
  · rw [if_pos h3, cut_empty h3]; simp [cutW_nil]
  · rw [if_neg h3]
    by_cases h4 : (cutW (cutW (cutW (cutW l).2).2).2).1 = []
    · rw [if_pos h4]; simp [h4]
    · rw [if_neg h4]; simp [h4]

/-! ### cutting what was joined -/
theorem mem_tw (p : UInt8 → Bool) (l : List UInt8) (c : UInt8) (h : c ∈ l.takeWhile p) : p c = true := by
  induction l with
  | nil => simp at h
  | cons d l ih =>
    cases hd : p d with
    | false => simp [List.takeWhile_cons, hd] at h
    | true =>
      simp [List.takeWhile_cons, hd] at h
      rcases h with rfl | h
      · exact hd
      · exact ih h
theorem w1_nsp (l : List UInt8) : ∀ c ∈ w1 l, sp c = false := by
  intro c hc
  have h : c ∈ (l.dropWhile sp).takeWhile nsp := hc
  simpa [nsp] using mem_tw nsp _ c h

theorem cut_front {x y : List UInt8} {c : UInt8} (hx : x ≠ []) (h : ∀ d ∈ x, sp d = false) (hc : sp c = true) : cutW (x ++ c :: y) = (x, c :: y) := by
  have h1 : (x ++ c :: y).dropWhile sp = x ++ c :: y := by
    cases x with
    | nil => exact absurd rfl hx
    | cons d x => simp [List.dropWhile_cons, h d (by simp)]
  unfold cutW
  rw [h1]
  have h2 : (x ++ c :: y).takeWhile nsp = x := by
    clear h1 hx
    induction x with
    | nil => simp [List.takeWhile_cons, nsp, hc]
    | cons d x ih =>
      have := h d (by simp)
      simp only [List.cons_append, List.takeWhile_cons, nsp, this, Bool.not_false, if_true]
      congr 1
      exact ih (fun d hd => h d (by simp [hd]))
  have h3 : (x ++ c :: y).dropWhile nsp = c :: y := by
    rw [dropWhile_eq, h2]; simp
  rw [h2, h3]
theorem cut_last {x : List UInt8} (h : ∀ d ∈ x, sp d = false) : cutW x = (x, []) := by
  unfold cutW
  have h1 : x.dropWhile sp = x := by
    cases x with
    | nil => rfl
    | cons d x => simp [List.dropWhile_cons, h d (by simp)]
  have h2 : x.takeWhile nsp = x := by
    clear h1
    induction x with
    | nil => rfl
    | cons d x ih =>
      have := h d (by simp)
      simp only [List.takeWhile_cons, nsp, this, Bool.not_false, if_true]
      congr 1
      exact ih (fun d hd => h d (by simp [hd]))
  rw [h1, h2, dropWhile_eq, h2]; simp

theorem joined (x y : List UInt8) (hx : x ≠ []) (h1 : ∀ d ∈ x, sp d = false) (h2 : ∀ d ∈ y, sp d = false) :
    let l := x ++ ([32, 45, 32] ++ y)
    w1 l = x ∧ w1 (r1 l) = [45] ∧ w1 (r1 (r1 l)) = y ∧ w1 (r1 (r1 (r1 l))) = [] := by
  intro l
  have s32 : sp 32 = true := by decide
  have s45 : sp 45 = false := by decide
  have e1 : cutW l = (x, 32 :: 45 :: 32 :: y) := cut_front (y := 45 :: 32 :: y) hx h1 s32
  have e2 : cutW (32 :: 45 :: 32 :: y) = ([45], 32 :: y) := by
    rw [cutW_space s32]
    exact cut_front (x := [45]) (y := y) (by simp) (by intro d hd; simp at hd; rw [hd]; exact s45) s32
  have e3 : cutW (32 :: y) = (y, []) := by rw [cutW_space s32]; exact cut_last h2
  simp only [w1, r1, e1, e2, e3, cutW_nil]
  simp

end Go.Proofs.Qxb6619230a
