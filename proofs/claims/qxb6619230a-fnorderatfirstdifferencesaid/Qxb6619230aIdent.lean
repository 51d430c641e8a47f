/-
  THE WALK of compareIdentLists where two strings are alike below i and part at i.
-/
import Derived.Test.Qxb6619230aCmp
namespace Go.Proofs.Qxb6619230a
open Go.RowKit

/-- The strings are alike below i; at i they do not hold one and the same byte. -/
structure Part (a b : ByteArray) (i : Nat) : Prop where
  ha : i ≤ a.size
  hb : i ≤ b.size
  same : ∀ j, j < i → a.data.toList[j]? = b.data.toList[j]?
  part : ∀ (h : i < a.size) (h' : i < b.size), a[i].toNat ≠ b[i].toNat
  nula : ∀ (h : i < a.size), a[i].toNat ≠ 0
  nulb : ∀ (h : i < b.size), b[i].toNat ≠ 0

/-- From p to e there is no dot. -/
def NoDot (a : ByteArray) (p e : Nat) : Prop := ∀ j, p ≤ j → j < e → ∀ (h : j < a.size), a[j].toNat ≠ 46

/-- The identifier that begins at p ends somewhere. -/
theorem stop_exists (a : ByteArray) (p : Nat) (hp : p ≤ a.size) : ∃ A, p ≤ A ∧ A ≤ a.size ∧ NoDot a p A ∧ ((∃ h : A < a.size, a[A].toNat = 46) ∨ A = a.size) := by
  suffices H : ∀ m p, p + m = a.size → ∃ A, p ≤ A ∧ A ≤ a.size ∧ NoDot a p A ∧ ((∃ h : A < a.size, a[A].toNat = 46) ∨ A = a.size) from H (a.size - p) p (by omega)
  intro m
  induction m with
  | zero => intro p h; exact ⟨p, Nat.le_refl _, by omega, fun j h1 h2 => absurd h2 (by omega), Or.inr (by omega)⟩
  | succ m ih =>
    intro p h
    have hlt : p < a.size := by omega
    by_cases hd : a[p].toNat = 46
    · exact ⟨p, Nat.le_refl _, by omega, fun j h1 h2 => absurd h2 (by omega), Or.inl ⟨hlt, hd⟩⟩
    · obtain ⟨A, h1, h2, h3, h4⟩ := ih (p + 1) (by omega)
      refine ⟨A, by omega, h2, fun j hj1 hj2 hj => ?_, h4⟩
      by_cases e : j = p
      · subst e; exact hd
      · exact h3 j (by omega) hj2 hj

theorem piece_at (s : ByteArray) (p e j : Nat) (hj : p + j < e) : (s.extract p e).data.toList[j]? = s.data.toList[p + j]? := by
  rw [Lib.extract_data, List.getElem?_take_of_lt (by omega), List.getElem?_drop]

theorem size_piece (s : ByteArray) (p e : Nat) (he : e ≤ s.size) : (s.extract p e).size = e - p := by
  have h := ByteArray.size_extract (a := s) (b := p) (e := e)
  omega

theorem get_piece (s : ByteArray) (p e j : Nat) (he : e ≤ s.size) (hj : p + j < e) (h : j < (s.extract p e).size) : (s.extract p e)[j] = s[p + j]'(by omega) := by
  have h1 := piece_at s p e j hj
  have ls : ∀ t : ByteArray, t.data.toList.length = t.size := fun t => rfl
  have ha : j < (s.extract p e).data.toList.length := by rw [ls]; exact h
  have hb : p + j < s.data.toList.length := by rw [ls]; omega
  rw [List.getElem?_eq_getElem ha, List.getElem?_eq_getElem hb] at h1
  exact Option.some.inj h1

theorem same_byte {a b : ByteArray} {i j : Nat} (h : ∀ j, j < i → a.data.toList[j]? = b.data.toList[j]?) (hj : j < i) (ha : j < a.size) (hb : j < b.size) : a[j].toNat = b[j].toNat := same_at h hj ha hb

/-- How the comparison of the two identifiers that begin at p comes out. -/
def Comes (a b : ByteArray) (i A B : Nat) (r : Int) : Prop :=
  (r = 0 ∧ A < i ∧ B = A ∧ A < a.size ∧ A < b.size) ∨ (r ≠ 0 ∧ r = sgn (ordAt a i) (ordAt b i)) ∨
  (r = 0 ∧ A = i ∧ B = i ∧ ((i = a.size ∧ i = b.size ∧ sgn (ordAt a i) (ordAt b i) = 0) ∨ (i = a.size ∧ i < b.size ∧ sgn (ordAt a i) (ordAt b i) = -1) ∨ (i < a.size ∧ i = b.size ∧ sgn (ordAt a i) (ordAt b i) = 1)))

theorem ord_end {s : ByteArray} {i : Nat} (h : i = s.size) : ordAt s i = -1 := by unfold ordAt; rw [dif_neg (by omega)]
theorem ord_dot {s : ByteArray} {i : Nat} (h : i < s.size) (hd : s[i].toNat = 46) : ordAt s i = 0 := by unfold ordAt; rw [dif_pos h, if_pos hd]
theorem ord_byte {s : ByteArray} {i : Nat} (h : i < s.size) (hd : s[i].toNat ≠ 46) : ordAt s i = s[i].toNat := by unfold ordAt; rw [dif_pos h, if_neg hd]
theorem sgn_lt {x y : Int} (h : x < y) : sgn x y = -1 := by unfold sgn; rw [if_pos h]
theorem sgn_gt {x y : Int} (h : y < x) : sgn x y = 1 := by unfold sgn; rw [if_neg (by omega), if_pos h]
theorem sgn_eq {x y : Int} (h : x = y) : sgn x y = 0 := by unfold sgn; rw [if_neg (by omega), if_neg (by omega)]

theorem comes {a b : ByteArray} {i p A B : Nat} (H : Part a b i) (hp : p ≤ i) (hA0 : p ≤ A) (hA1 : A ≤ a.size) (hA2 : NoDot a p A) (hA3 : (∃ h : A < a.size, a[A].toNat = 46) ∨ A = a.size)
    (hB0 : p ≤ B) (hB1 : B ≤ b.size) (hB2 : NoDot b p B) (hB3 : (∃ h : B < b.size, b[B].toNat = 46) ∨ B = b.size) :
    ∃ d r, Diff (a.extract p A) (b.extract p B) d r ∧ d ≤ (a.extract p A).size ∧ d ≤ (b.extract p B).size ∧ Comes a b i A B r := by
  have sa := size_piece a p A hA1
  have sb := size_piece b p B hB1
  have ha := H.ha
  have hb := H.hb
  by_cases hlt : A < i
  · -- the identifiers end at one dot below i
    have hdA : (a[A]'(by omega)).toNat = 46 := by
      rcases hA3 with ⟨h, e⟩ | e
      · exact e
      · omega
    have hdB : (b[A]'(by omega)).toNat = 46 := by rw [← same_byte H.same hlt (by omega) (by omega)]; exact hdA
    have hBA : B = A := by
      rcases Nat.lt_trichotomy B A with h | h | h
      · rcases hB3 with ⟨h', e⟩ | e
        · have := hA2 B hB0 h (by omega)
          rw [same_byte H.same (by omega) (by omega) h'] at this
          exact absurd e this
        · omega
      · exact h
      · exact absurd hdB (hB2 A hA0 h (by omega))
    subst hBA
    refine ⟨B - p, 0, ⟨fun j hj => ?_, Or.inl ⟨by omega, by omega, rfl⟩⟩, by omega, by omega, Or.inl ⟨rfl, hlt, rfl, by omega, by omega⟩⟩
    rw [piece_at a p B j (by omega), piece_at b p B j (by omega)]
    exact H.same _ (by omega)
  · have hBi : i ≤ B := by
      apply Decidable.byContradiction
      intro hn
      rcases hB3 with ⟨h', e⟩ | e
      · have := hA2 B hB0 (by omega) (by omega)
        rw [same_byte H.same (by omega) (by omega) h'] at this
        exact absurd e this
      · omega
    have hsame : ∀ j, j < i - p → (a.extract p A).data.toList[j]? = (b.extract p B).data.toList[j]? := by
      intro j hj
      rw [piece_at a p A j (by omega), piece_at b p B j (by omega)]
      exact H.same _ (by omega)
    have epi : p + (i - p) = i := by omega
    -- what stands at i
    by_cases hAi : A = i
    · subst hAi
      have hoa : ordAt a A = -1 ∨ ordAt a A = 0 := by
        rcases hA3 with ⟨h, e⟩ | e
        · exact Or.inr (ord_dot h e)
        · exact Or.inl (ord_end e)
      by_cases hBA : B = A
      · subst hBA
        refine ⟨B - p, 0, ⟨hsame, Or.inl ⟨by omega, by omega, rfl⟩⟩, by omega, by omega, Or.inr (Or.inr ⟨rfl, rfl, rfl, ?_⟩)⟩
        rcases hA3 with ⟨h, e⟩ | e
        · rcases hB3 with ⟨h', e'⟩ | e'
          · exact absurd (e.trans e'.symm) (H.part h h')
          · exact Or.inr (Or.inr ⟨h, e', sgn_gt (by rw [ord_dot h e, ord_end e']; omega)⟩)
        · rcases hB3 with ⟨h', e'⟩ | e'
          · exact Or.inr (Or.inl ⟨e, h', sgn_lt (by rw [ord_dot h' e', ord_end e]; omega)⟩)
          · exact Or.inl ⟨e, e', sgn_eq (by rw [ord_end e, ord_end e'])⟩
      · have hbl : A < b.size := by omega
        have hbd : b[A].toNat ≠ 46 := hB2 A hA0 (by omega) hbl
        have hb0 := H.nulb hbl
        refine ⟨A - p, -1, ⟨hsame, Or.inr (Or.inl ⟨by omega, by omega, rfl⟩)⟩, by omega, by omega, Or.inr (Or.inl ⟨by omega, ?_⟩)⟩
        rw [sgn_lt]
        rw [ord_byte hbl hbd]
        rcases hoa with h | h <;> rw [h] <;> omega
    · have hal : i < a.size := by omega
      have had : a[i].toNat ≠ 46 := hA2 i hp (by omega) hal
      have ha0 := H.nula hal
      by_cases hBI : B = i
      · subst hBI
        have hob : ordAt b B = -1 ∨ ordAt b B = 0 := by
          rcases hB3 with ⟨h, e⟩ | e
          · exact Or.inr (ord_dot h e)
          · exact Or.inl (ord_end e)
        refine ⟨B - p, 1, ⟨hsame, Or.inr (Or.inr (Or.inl ⟨by omega, by omega, rfl⟩))⟩, by omega, by omega, Or.inr (Or.inl ⟨by omega, ?_⟩)⟩
        rw [sgn_gt]
        rw [ord_byte hal had]
        rcases hob with h | h <;> rw [h] <;> omega
      · have hbl : i < b.size := by omega
        have hbd : b[i].toNat ≠ 46 := hB2 i hp (by omega) hbl
        have hne := H.part hal hbl
        have h1 : i - p < (a.extract p A).size := by omega
        have h2 : i - p < (b.extract p B).size := by omega
        have g1 : (a.extract p A)[i - p].toNat = a[i].toNat := by rw [get_piece a p A (i - p) hA1 (by omega) h1]; simp only [epi]
        have g2 : (b.extract p B)[i - p].toNat = b[i].toNat := by rw [get_piece b p B (i - p) hB1 (by omega) h2]; simp only [epi]
        rcases Nat.lt_or_gt_of_ne hne with h | h
        · refine ⟨i - p, -1, ⟨hsame, Or.inr (Or.inr (Or.inr (Or.inl ⟨h1, h2, by omega, rfl⟩)))⟩, by omega, by omega, Or.inr (Or.inl ⟨by omega, ?_⟩)⟩
          rw [sgn_lt]
          rw [ord_byte hal had, ord_byte hbl hbd]; omega
        · refine ⟨i - p, 1, ⟨hsame, Or.inr (Or.inr (Or.inr (Or.inr ⟨h1, h2, by omega, rfl⟩)))⟩, by omega, by omega, Or.inr (Or.inl ⟨by omega, ?_⟩)⟩
          rw [sgn_gt]
          rw [ord_byte hal had, ord_byte hbl hbd]; omega

end Go.Proofs.Qxb6619230a
