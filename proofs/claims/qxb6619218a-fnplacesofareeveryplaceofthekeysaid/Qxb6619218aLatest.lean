/-
  THE PLAIN LAW of 'latestOf', with no Go in sight: lists of byte strings, their greatest, and the greatest of those of ten bytes.
-/
import GoSem.Op.String
namespace Go.Proofs.Qxb6619218a

theorem less_eq : ∀ (x y : List UInt8), Op.bytesLess x y = decide (x < y)
  | [], [] => by simp [Op.bytesLess]
  | _ :: _, [] => by simp [Op.bytesLess]
  | [], _ :: _ => by simp [Op.bytesLess]
  | a :: x, b :: y => by
    rw [Op.bytesLess, less_eq x y]
    simp only [List.cons_lt_cons_iff]
    by_cases h1 : a < b <;> by_cases h2 : a = b <;> by_cases h3 : x < y <;> simp [h1, h2, h3]

theorem ba_ext {x y : ByteArray} (h : x.data.toList = y.data.toList) : x = y := by
  cases x; cases y; simp at h; subst h; rfl

/-- Go's 'max(x, y)' of two strings. -/
def maxS (x y : ByteArray) : ByteArray := if x.data.toList < y.data.toList then y else x

/-- x is at most y, in byte order. -/
def leS (x y : ByteArray) : Prop := ¬ y.data.toList < x.data.toList

theorem leS_refl (x : ByteArray) : leS x x := by unfold leS; exact List.lt_irrefl _
theorem leS_trans {x y z : ByteArray} (h : leS x y) (k : leS y z) : leS x z := by
  unfold leS at *
  exact List.le_trans h k
theorem leS_antisymm {x y : ByteArray} (h : leS x y) (k : leS y x) : x = y := by
  unfold leS at *
  exact ba_ext (List.le_antisymm h k)
theorem leS_total (x y : ByteArray) : leS x y ∨ leS y x := by
  unfold leS
  exact List.le_total _ _

theorem leS_empty (x : ByteArray) : leS ByteArray.empty x := by
  unfold leS
  exact List.not_lt_nil _

theorem maxS_left (x y : ByteArray) : leS x (maxS x y) := by
  unfold maxS
  split
  · rcases leS_total x y with h | h
    · exact h
    · exact absurd ‹_› h
  · exact leS_refl _
theorem maxS_right (x y : ByteArray) : leS y (maxS x y) := by
  unfold maxS
  split
  · exact leS_refl _
  · assumption
theorem maxS_cases (x y : ByteArray) : maxS x y = x ∨ maxS x y = y := by
  unfold maxS; split <;> simp

/-- The greatest of a list, "" where it is empty. -/
def mx (L : List ByteArray) : ByteArray := L.foldl maxS ByteArray.empty
def isStable (v : ByteArray) : Bool := v.size == 10
/-- The greatest of those of ten bytes. -/
def st (L : List ByteArray) : ByteArray := mx (L.filter isStable)
def latest (L : List ByteArray) : ByteArray := if (st L).data.toList = [] then mx L else st L

theorem foldl_ge (L : List ByteArray) : ∀ a, leS a (L.foldl maxS a) ∧ ∀ v ∈ L, leS v (L.foldl maxS a) := by
  induction L with
  | nil => intro a; exact ⟨leS_refl _, by simp⟩
  | cons x L ih =>
    intro a
    obtain ⟨h1, h2⟩ := ih (maxS a x)
    refine ⟨leS_trans (maxS_left a x) h1, ?_⟩
    intro v hv
    rcases List.mem_cons.1 hv with rfl | hv
    · exact leS_trans (maxS_right a v) h1
    · exact h2 v hv
theorem foldl_mem (L : List ByteArray) : ∀ a, L.foldl maxS a = a ∨ L.foldl maxS a ∈ L := by
  induction L with
  | nil => intro a; exact Or.inl rfl
  | cons x L ih =>
    intro a
    rcases ih (maxS a x) with h | h
    · rcases maxS_cases a x with e | e
      · left; simpa [List.foldl_cons, e] using h
      · right; rw [List.foldl_cons, h, e]; simp
    · right; exact List.mem_cons_of_mem _ h

theorem mx_ge {L : List ByteArray} {v : ByteArray} (h : v ∈ L) : leS v (mx L) := (foldl_ge L _).2 v h
theorem mx_mem {L : List ByteArray} (h : L ≠ []) : mx L ∈ L := by
  rcases foldl_mem L ByteArray.empty with e | e
  · match L, h with
    | x :: L, _ =>
      have := mx_ge (L := x :: L) (v := x) (by simp)
      have e' : mx (x :: L) = ByteArray.empty := e
      rw [e'] at this
      have := leS_antisymm this (leS_empty x)
      rw [e', ← this]; simp
  · exact e
theorem mx_nil : mx [] = ByteArray.empty := rfl
/-- The greatest is told by two facts. -/
theorem mx_of {L : List ByteArray} {m : ByteArray} (hm : m ∈ L) (hge : ∀ v ∈ L, leS v m) : mx L = m :=
  leS_antisymm (hge _ (mx_mem (by intro e; rw [e] at hm; simp at hm))) (mx_ge hm)

theorem st_snoc (L : List ByteArray) (v : ByteArray) : st (L ++ [v]) = if v.size = 10 then maxS (st L) v else st L := by
  unfold st mx
  rw [List.filter_append, List.foldl_append]
  by_cases h : v.size = 10 <;> simp [isStable, h]
theorem mx_snoc (L : List ByteArray) (v : ByteArray) : mx (L ++ [v]) = maxS (mx L) v := by
  unfold mx; rw [List.foldl_append]; rfl

/-- THE LIST AMONG WHICH 'latest' IS THE GREATEST. -/
def cand (L : List ByteArray) : List ByteArray := if L.any isStable then L.filter isStable else L

theorem empty_iff (x : ByteArray) : x.data.toList = [] ↔ x = ByteArray.empty :=
  ⟨fun h => ba_ext h, fun h => by subst h; rfl⟩

theorem latest_eq (L : List ByteArray) : latest L = mx (cand L) := by
  unfold latest cand
  by_cases h : L.any isStable = true
  · have hne : L.filter isStable ≠ [] := by
      intro e
      obtain ⟨x, hx, hs⟩ := List.any_eq_true.1 h
      have : x ∈ L.filter isStable := List.mem_filter.2 ⟨hx, hs⟩
      rw [e] at this; simp at this
    have hm := mx_mem hne
    have hs := (List.mem_filter.1 hm).2
    have : ¬ (st L).data.toList = [] := by
      intro e
      have e' := (empty_iff _).1 e
      unfold st at e'
      rw [e'] at hs
      simp [isStable] at hs
    simp only [h, if_true]
    rw [if_neg this]; rfl
  · have hf : L.filter isStable = [] := by
      rw [List.filter_eq_nil_iff]
      intro a ha hs
      exact h (List.any_eq_true.2 ⟨a, ha, hs⟩)
    have : (st L).data.toList = [] := by unfold st; rw [hf]; rfl
    rw [if_pos this, if_neg h]

theorem cand_nil {L : List ByteArray} (h : cand L = []) : L = [] := by
  unfold cand at h
  split at h
  · rename_i ha
    obtain ⟨x, hx, hs⟩ := List.any_eq_true.1 ha
    have : x ∈ L.filter isStable := List.mem_filter.2 ⟨hx, hs⟩
    rw [h] at this; simp at this
  · exact h

theorem cand_sub {L : List ByteArray} {v : ByteArray} (h : v ∈ cand L) : v ∈ L := by
  unfold cand at h
  split at h
  · exact (List.mem_filter.1 h).1
  · exact h

theorem latest_mem {L : List ByteArray} (h : L ≠ []) : latest L ∈ L := by
  rw [latest_eq]
  exact cand_sub (mx_mem (fun e => h (cand_nil e)))
theorem latest_nil : latest [] = ByteArray.empty := rfl
theorem latest_ge {L : List ByteArray} {v : ByteArray} (h : v ∈ cand L) : leS v (latest L) := by rw [latest_eq]; exact mx_ge h
theorem latest_cand {L : List ByteArray} (h : L ≠ []) : latest L ∈ cand L := by rw [latest_eq]; exact mx_mem (fun e => h (cand_nil e))

theorem latest_of {L : List ByteArray} {m : ByteArray} (hm : m ∈ cand L) (hge : ∀ v ∈ cand L, leS v m) : latest L = m := by rw [latest_eq]; exact mx_of hm hge

/-- whether 'latest' of a list has ten bytes -/
theorem latest_stable (L : List ByteArray) : isStable (latest L) = L.any isStable := by
  by_cases h0 : L = []
  · subst h0; simp [latest_nil, isStable]
  have hm := latest_cand h0
  unfold cand at hm
  by_cases h : L.any isStable = true
  · rw [if_pos h] at hm
    rw [h]; exact (List.mem_filter.1 hm).2
  · rw [if_neg h] at hm
    have : L.any isStable = false := by simpa using h
    rw [this]
    by_cases hs : isStable (latest L) = true
    · exact absurd (List.any_eq_true.2 ⟨_, hm, hs⟩) h
    · simpa using hs

theorem cand_pos {L : List ByteArray} (h : L.any isStable = true) : cand L = L.filter isStable := by unfold cand; rw [if_pos h]
theorem cand_neg {L : List ByteArray} (h : L.any isStable = false) : cand L = L := by unfold cand; rw [if_neg (by simp [h])]

/-- whatever stands among the candidates of the whole is at most the latest of its own part, which stands among the pair's candidates -/
theorem cut_part {L : List ByteArray} {v : ByteArray} {l : ByteArray} (gl : ∀ v ∈ cand L, leS v l) (hv : v ∈ L)
    (hs : L.any isStable = true → isStable v = true) : leS v l := by
  apply gl
  cases h : L.any isStable with
  | true => rw [cand_pos h]; exact List.mem_filter.2 ⟨hv, hs h⟩
  | false => rw [cand_neg h]; exact hv

/-- A LIST CUT ANYWHERE. -/
theorem latest_cut (L R : List ByteArray) : latest [latest L, latest R] = latest (L ++ R) := by
  by_cases hL : L = []
  · subst hL
    rw [List.nil_append, latest_nil]
    apply latest_of
    · cases h : isStable (latest R) with
      | true => rw [cand_pos (by simp [h])]; exact List.mem_filter.2 ⟨by simp, h⟩
      | false => rw [cand_neg (by simp [h]; rfl)]; simp
    · intro v hv
      rcases List.mem_cons.1 (cand_sub hv) with rfl | h
      · exact leS_empty _
      · simp at h; subst h; exact leS_refl _
  by_cases hR : R = []
  · subst hR
    rw [List.append_nil, latest_nil]
    apply latest_of
    · cases h : isStable (latest L) with
      | true => rw [cand_pos (by simp [h])]; exact List.mem_filter.2 ⟨by simp, h⟩
      | false => rw [cand_neg (by simp [h]; rfl)]; simp
    · intro v hv
      rcases List.mem_cons.1 (cand_sub hv) with rfl | h
      · exact leS_refl _
      · simp at h; subst h; exact leS_empty _
  symm
  have sL := latest_stable L
  have sR := latest_stable R
  have cL := latest_cand hL
  have cR := latest_cand hR
  have gL : ∀ v ∈ cand L, leS v (latest L) := fun v hv => latest_ge hv
  have gR : ∀ v ∈ cand R, leS v (latest R) := fun v hv => latest_ge hv
  have hmem := latest_cand (L := [latest L, latest R]) (by simp)
  have hge : ∀ v ∈ cand [latest L, latest R], leS v (latest [latest L, latest R]) := fun v hv => latest_ge hv
  generalize latest [latest L, latest R] = m at *
  generalize latest L = l at *
  generalize latest R = r at *
  apply latest_of
  · cases a : L.any isStable <;> cases b : R.any isStable <;> rw [a] at sL <;> rw [b] at sR
    · rw [cand_neg a] at cL
      rw [cand_neg b] at cR
      rw [cand_neg (by simp [sL, sR])] at hmem
      rw [cand_neg (by rw [List.any_append, a, b]; rfl)]
      rcases List.mem_cons.1 hmem with rfl | h
      · exact List.mem_append_left _ cL
      · simp at h; subst h; exact List.mem_append_right _ cR
    · rw [cand_pos b] at cR
      rw [cand_pos (by simp [sL, sR])] at hmem
      rw [cand_pos (by rw [List.any_append, a, b]; rfl), List.filter_append]
      obtain ⟨h1, h2⟩ := List.mem_filter.1 hmem
      rcases List.mem_cons.1 h1 with rfl | h
      · rw [sL] at h2; cases h2
      · simp at h; subst h; exact List.mem_append_right _ cR
    · rw [cand_pos a] at cL
      rw [cand_pos (by simp [sL, sR])] at hmem
      rw [cand_pos (by rw [List.any_append, a, b]; rfl), List.filter_append]
      obtain ⟨h1, h2⟩ := List.mem_filter.1 hmem
      rcases List.mem_cons.1 h1 with rfl | h
      · exact List.mem_append_left _ cL
      · simp at h; subst h; rw [sR] at h2; cases h2
    · rw [cand_pos a] at cL
      rw [cand_pos b] at cR
      rw [cand_pos (by simp [sL, sR])] at hmem
      rw [cand_pos (by rw [List.any_append, a, b]; rfl), List.filter_append]
      obtain ⟨h1, h2⟩ := List.mem_filter.1 hmem
      rcases List.mem_cons.1 h1 with rfl | h
      · exact List.mem_append_left _ cL
      · simp at h; subst h; exact List.mem_append_right _ cR
  · intro v hv
    have hpair : (∀ u, u ∈ [l, r] → ([l, r].any isStable = true → isStable u = true) → leS u m) := by
      intro u hu hs
      exact cut_part (L := [l, r]) hge hu hs
    have hvs : (L ++ R).any isStable = true → isStable v = true := by
      intro h; rw [cand_pos h] at hv; exact (List.mem_filter.1 hv).2
    have hany : (L ++ R).any isStable = [l, r].any isStable := by simp [List.any_append, sL, sR]
    rcases List.mem_append.1 (cand_sub hv) with h | h
    · refine leS_trans (cut_part gL h (fun e => hvs (by rw [List.any_append, e]; rfl))) (hpair l (by simp) (fun e => ?_))
      have := hvs (hany.trans e)
      rw [sL]; exact List.any_eq_true.2 ⟨v, h, this⟩
    · refine leS_trans (cut_part gR h (fun e => hvs (by rw [List.any_append, e]; simp))) (hpair r (by simp) (fun e => ?_))
      have := hvs (hany.trans e)
      rw [sR]; exact List.any_eq_true.2 ⟨v, h, this⟩

end Go.Proofs.Qxb6619218a
