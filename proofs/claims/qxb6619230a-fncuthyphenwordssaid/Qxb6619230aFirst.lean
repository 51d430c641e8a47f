/-
  THE WALK of firstWords.
-/
import Derived.Test.Qxb6619230aCutWord
namespace Go.Proofs.Qxb6619230a
open Go.RowKit

/-- What has been gathered: n words, of the text as far as i. -/
def St (l : List UInt8) (i n : Nat) (x0 x1 x2 x3 : ByteArray) : Prop :=
  ∃ ws : List (List UInt8), ws.length = n ∧ wordsN 4 l = ws ++ wordsN (4 - n) (l.drop i) ∧ x0.data.toList = ws.getD 0 [] ∧ x1.data.toList = ws.getD 1 [] ∧ x2.data.toList = ws.getD 2 [] ∧ x3.data.toList = ws.getD 3 []

theorem st_start (l : List UInt8) : St l 0 0 ⟨#[]⟩ ⟨#[]⟩ ⟨#[]⟩ ⟨#[]⟩ := ⟨[], rfl, rfl, rfl, rfl, rfl, rfl⟩

theorem st_space {l : List UInt8} {i n : Nat} {x0 x1 x2 x3 : ByteArray} (h : St l i n x0 x1 x2 x3) (hi : i < l.length) (hs : sp l[i] = true) : St l (i + 1) n x0 x1 x2 x3 := by
  obtain ⟨ws, h1, h2, h3⟩ := h
  refine ⟨ws, h1, ?_, h3⟩
  rw [h2, List.drop_eq_getElem_cons hi, wordsN_space hs]

/-- Where the word that begins at i ends. -/
def eJ (l : List UInt8) (i : Nat) : Nat := i + ((l.drop i).takeWhile nsp).length
theorem eJ_le {l : List UInt8} {i : Nat} (hi : i ≤ l.length) : eJ l i ≤ l.length := by
  have := takeWhile_le nsp (l.drop i)
  rw [List.length_drop] at this
  unfold eJ; omega
theorem eJ_in {l : List UInt8} {i j : Nat} (h0 : i ≤ j) (h : j < eJ l i) (hl : j < l.length) : sp l[j] = false := by
  have := tw_lt nsp (l.drop i) (j - i) (by unfold eJ at h; omega) (by rw [List.length_drop]; omega)
  rw [List.getElem_drop] at this
  have e : i + (j - i) = j := by omega
  simp only [e] at this
  simpa [nsp] using this
theorem eJ_at {l : List UInt8} {i : Nat} (h : eJ l i < l.length) : sp l[eJ l i] = true := by
  have := tw_end nsp (l.drop i) (by rw [List.length_drop]; unfold eJ at h; omega)
  rw [List.getElem_drop] at this
  have h2 : nsp l[eJ l i] = false := this
  simpa [nsp] using h2

/-- A word is gathered. -/
theorem word_step {l : List UInt8} {i m : Nat} (hi : i < l.length) (hs : sp l[i] = false) : wordsN (m + 1) (l.drop i) = (l.drop i).take (eJ l i - i) :: wordsN m (l.drop (eJ l i)) := by
  have e := List.drop_eq_getElem_cons hi
  have h1 : wordsN (m + 1) (l.drop i) = (l.drop i).takeWhile nsp :: wordsN m ((l.drop i).dropWhile nsp) := by
    rw [e]; exact wordsN_word hs m
  rw [h1]
  have h2 : eJ l i - i = ((l.drop i).takeWhile nsp).length := by unfold eJ; omega
  rw [h2, ← takeWhile_eq, dropWhile_eq, List.drop_drop]
  rfl

theorem st_word0 {l : List UInt8} {i : Nat} {x0 x1 x2 x3 y : ByteArray} (h : St l i 0 x0 x1 x2 x3) (hi : i < l.length) (hs : sp l[i] = false) (hy : y.data.toList = (l.drop i).take (eJ l i - i)) : St l (eJ l i) 1 y x1 x2 x3 := by
  obtain ⟨ws, h1, h2, h3, h4, h5, h6⟩ := h
  match ws, h1 with
  | [], _ =>
    refine ⟨[(l.drop i).take (eJ l i - i)], rfl, ?_, hy, h4, h5, h6⟩
    rw [h2, word_step hi hs]; rfl
theorem st_word1 {l : List UInt8} {i : Nat} {x0 x1 x2 x3 y : ByteArray} (h : St l i 1 x0 x1 x2 x3) (hi : i < l.length) (hs : sp l[i] = false) (hy : y.data.toList = (l.drop i).take (eJ l i - i)) : St l (eJ l i) 2 x0 y x2 x3 := by
  obtain ⟨ws, h1, h2, h3, h4, h5, h6⟩ := h
  match ws, h1 with
  | [a], _ =>
    refine ⟨[a, (l.drop i).take (eJ l i - i)], rfl, ?_, h3, hy, h5, h6⟩
    rw [h2, word_step hi hs]; rfl
theorem st_word2 {l : List UInt8} {i : Nat} {x0 x1 x2 x3 y : ByteArray} (h : St l i 2 x0 x1 x2 x3) (hi : i < l.length) (hs : sp l[i] = false) (hy : y.data.toList = (l.drop i).take (eJ l i - i)) : St l (eJ l i) 3 x0 x1 y x3 := by
  obtain ⟨ws, h1, h2, h3, h4, h5, h6⟩ := h
  match ws, h1 with
  | [a, b], _ =>
    refine ⟨[a, b, (l.drop i).take (eJ l i - i)], rfl, ?_, h3, h4, hy, h6⟩
    rw [h2, word_step hi hs]; rfl
theorem st_word3 {l : List UInt8} {i : Nat} {x0 x1 x2 x3 y : ByteArray} (h : St l i 3 x0 x1 x2 x3) (hi : i < l.length) (hs : sp l[i] = false) (hy : y.data.toList = (l.drop i).take (eJ l i - i)) : St l (eJ l i) 4 x0 x1 x2 y := by
  obtain ⟨ws, h1, h2, h3, h4, h5, h6⟩ := h
  match ws, h1 with
  | [a, b, c], _ =>
    refine ⟨[a, b, c, (l.drop i).take (eJ l i - i)], rfl, ?_, h3, h4, h5, hy⟩
    rw [h2, word_step hi hs]; rfl

theorem st_end {l : List UInt8} {i n : Nat} {x0 x1 x2 x3 : ByteArray} (h : St l i n x0 x1 x2 x3) (he : l.length ≤ i ∨ 4 ≤ n) :
    n = (wordsN 4 l).length ∧ x0.data.toList = w1 l ∧ x1.data.toList = w1 (r1 l) ∧ x2.data.toList = w1 (r1 (r1 l)) := by
  obtain ⟨ws, h1, h2, h3, h4, h5, h6⟩ := h
  have hn : wordsN (4 - n) (l.drop i) = [] := by
    rcases he with h | h
    · rw [List.drop_eq_nil_of_le h]; exact wordsN_nil _
    · have : 4 - n = 0 := by omega
      rw [this]; rfl
  rw [hn, List.append_nil] at h2
  rw [← words0, ← words1, ← words2, h2]
  exact ⟨h1.symm, h3, h4, h5⟩

theorem word_piece (s : ByteArray) (i f : Nat) (h : f = eJ s.data.toList i) : (s.extract i f).data.toList = (s.data.toList.drop i).take (eJ s.data.toList i - i) := by
  rw [Lib.extract_data, h]

def FwPost (l : List UInt8) (w : World) (e : Ending) (w' : World) : Prop :=
  ∃ (x0 x1 x2 x3 : ByteArray) (n : Nat), e = .returned (.tuple #[.agg #[.string x0, .string x1, .string x2, .string x3], .int .i64 n]) ∧
    n = (wordsN 4 l).length ∧ x0.data.toList = w1 l ∧ x1.data.toList = w1 (r1 l) ∧ x2.data.toList = w1 (r1 (r1 l)) ∧ Grown w w'

set_option maxRecDepth 100000 in
set_option maxHeartbeats 1000000 in
theorem first_any (s : ByteArray) (hs : s.size ≤ 1048576) (w : World) : Calls Try.prog 14 #[.string s] w (FwPost s.data.toList w) := by
  go_enter Try.func14, Try.ntmps14
  go_wp2
  go_loopw [3, 4] (fun u v wr => ∃ (n i : Nat) (x0 x1 x2 x3 : ByteArray), n ≤ 4 ∧ i ≤ s.size ∧ u = .int .i64 n ∧ v = .int .i64 i ∧ wr = w.alloc (.cells #[.string x0, .string x1, .string x2, .string x3] 32) ∧ Hid (St s.data.toList i n x0 x1 x2 x3)) (fun u v _ => s.size + 4 - (intOf v).toNat - (intOf u).toNat)
  case atStart => exact ⟨0, 0, _, _, _, _, by omega, by omega, rfl, rfl, rfl, st_start _⟩
  case round =>
    obtain ⟨n, i, x0, x1, x2, x3, hn, hi, rfl, rfl, rfl, HS⟩ := hrel
    by_cases hlt : i < s.size
    · have hlt' : (i : Int) < (s.size : Int) := by omega
      by_cases hn4 : n < 4
      · cases hsp : sp s[i] with
        | true =>
          have c := fun w => spaceB_yes _ (sp_yes hsp) w
          go_wp2_with (go_at_call 19; refine (c _).mono ?_; rintro r w' ⟨rfl, rfl⟩)
          go_roundw
          case rel => exact ⟨n, i + 1, x0, x1, x2, x3, hn, by omega, rfl, by go_num, rfl, st_space HS.out hlt hsp⟩
          case measure => simp [intOf]; omega
        | false =>
          have c := fun w => spaceB_no _ (sp_no hsp) w
          obtain ⟨J, hJ⟩ : ∃ J, J = eJ s.data.toList i := ⟨_, rfl⟩
          have hJ1 : J ≤ s.size := by rw [hJ]; exact eJ_le (by exact hi)
          have hiJ : i ≤ J := by rw [hJ]; exact Nat.le_add_right _ _
          have B3 : Hid (∀ j (h : j < s.size), i ≤ j → j < J → sp s[j] = false) := fun j h h1 h2 => eJ_in h1 (by rw [← hJ]; exact h2) h
          have B4 : Hid (∀ (h : J < s.size), sp s[J] = true) := by
            intro h; subst hJ; exact eJ_at h
          have HJ : Hid (J = eJ s.data.toList i) := hJ
          clear hJ
          rcases (show n = 0 ∨ n = 1 ∨ n = 2 ∨ n = 3 by omega) with rfl | rfl | rfl | rfl
          · go_wp2_with (go_at_call 19; refine (c _).mono ?_; rintro r w' ⟨rfl, rfl⟩)
            go_loop [5] (fun u => ∃ f : Nat, i ≤ f ∧ f ≤ J ∧ u = .int .i64 f) (fun u => J - (intOf u).toNat)
            case atStart => exact ⟨i, Nat.le_refl _, by omega, rfl⟩
            case round =>
              obtain ⟨f, hf0, hf1, rfl⟩ := hrel
              have hi' : (i : Int) ≤ (f : Int) := by omega
              have hf' : (f : Int) ≤ (s.size : Int) := by omega
              by_cases hltf : f < J
              · have h1 : f < s.size := by omega
                have h1' : (f : Int) < (s.size : Int) := by omega
                have c2 := fun w => spaceB_no _ (sp_no (B3.out f h1 hf0 hltf)) w
                go_wp2_with (go_at_call 19; refine (c2 _).mono ?_; rintro r w' ⟨rfl, rfl⟩)
                go_round
                case rel => exact ⟨f + 1, by omega, by omega, by go_num⟩
                case measure => simp [intOf]; omega
              · obtain rfl : f = J := by omega
                by_cases hJs : f < s.size
                · have h1' : (f : Int) < (s.size : Int) := by omega
                  have c2 := fun w => spaceB_yes _ (sp_yes (B4.out hJs)) w
                  obtain ⟨y, hy⟩ : ∃ y, y = s.extract i f := ⟨_, rfl⟩
                  have Hy0 := word_piece s i f HJ.out
                  rw [← hy] at Hy0
                  have Hy : Hid (y.data.toList = (s.data.toList.drop i).take (eJ s.data.toList i - i)) := Hy0
                  have hye : s.extract i f = y := hy.symm
                  clear hy Hy0
                  go_wp2_with (go_at_call 19; refine (c2 _).mono ?_; rintro r w' ⟨rfl, rfl⟩)
                  go_roundw
                  case rel => exact ⟨1, f, y, x1, x2, x3, by omega, hJ1, by go_num, rfl, rfl, by have h := st_word0 HS.out hlt hsp Hy; rw [← HJ.out] at h; exact h⟩
                  case measure => simp [intOf]; omega
                · have h1' : (s.size : Int) ≤ (f : Int) := by omega
                  obtain ⟨y, hy⟩ : ∃ y, y = s.extract i f := ⟨_, rfl⟩
                  have Hy0 := word_piece s i f HJ.out
                  rw [← hy] at Hy0
                  have Hy : Hid (y.data.toList = (s.data.toList.drop i).take (eJ s.data.toList i - i)) := Hy0
                  have hye : s.extract i f = y := hy.symm
                  clear hy Hy0
                  go_wp2
                  go_roundw
                  case rel => exact ⟨1, f, y, x1, x2, x3, by omega, hJ1, by go_num, rfl, rfl, by have h := st_word0 HS.out hlt hsp Hy; rw [← HJ.out] at h; exact h⟩
                  case measure => simp [intOf]; omega
          · go_wp2_with (go_at_call 19; refine (c _).mono ?_; rintro r w' ⟨rfl, rfl⟩)
            go_loop [5] (fun u => ∃ f : Nat, i ≤ f ∧ f ≤ J ∧ u = .int .i64 f) (fun u => J - (intOf u).toNat)
            case atStart => exact ⟨i, Nat.le_refl _, by omega, rfl⟩
            case round =>
              obtain ⟨f, hf0, hf1, rfl⟩ := hrel
              have hi' : (i : Int) ≤ (f : Int) := by omega
              have hf' : (f : Int) ≤ (s.size : Int) := by omega
              by_cases hltf : f < J
              · have h1 : f < s.size := by omega
                have h1' : (f : Int) < (s.size : Int) := by omega
                have c2 := fun w => spaceB_no _ (sp_no (B3.out f h1 hf0 hltf)) w
                go_wp2_with (go_at_call 19; refine (c2 _).mono ?_; rintro r w' ⟨rfl, rfl⟩)
                go_round
                case rel => exact ⟨f + 1, by omega, by omega, by go_num⟩
                case measure => simp [intOf]; omega
              · obtain rfl : f = J := by omega
                by_cases hJs : f < s.size
                · have h1' : (f : Int) < (s.size : Int) := by omega
                  have c2 := fun w => spaceB_yes _ (sp_yes (B4.out hJs)) w
                  obtain ⟨y, hy⟩ : ∃ y, y = s.extract i f := ⟨_, rfl⟩
                  have Hy0 := word_piece s i f HJ.out
                  rw [← hy] at Hy0
                  have Hy : Hid (y.data.toList = (s.data.toList.drop i).take (eJ s.data.toList i - i)) := Hy0
                  have hye : s.extract i f = y := hy.symm
                  clear hy Hy0
                  go_wp2_with (go_at_call 19; refine (c2 _).mono ?_; rintro r w' ⟨rfl, rfl⟩)
                  go_roundw
                  case rel => exact ⟨2, f, x0, y, x2, x3, by omega, hJ1, by go_num, rfl, rfl, by have h := st_word1 HS.out hlt hsp Hy; rw [← HJ.out] at h; exact h⟩
                  case measure => simp [intOf]; omega
                · have h1' : (s.size : Int) ≤ (f : Int) := by omega
                  obtain ⟨y, hy⟩ : ∃ y, y = s.extract i f := ⟨_, rfl⟩
                  have Hy0 := word_piece s i f HJ.out
                  rw [← hy] at Hy0
                  have Hy : Hid (y.data.toList = (s.data.toList.drop i).take (eJ s.data.toList i - i)) := Hy0
                  have hye : s.extract i f = y := hy.symm
                  clear hy Hy0
                  go_wp2
                  go_roundw
                  case rel => exact ⟨2, f, x0, y, x2, x3, by omega, hJ1, by go_num, rfl, rfl, by have h := st_word1 HS.out hlt hsp Hy; rw [← HJ.out] at h; exact h⟩
                  case measure => simp [intOf]; omega
          · go_wp2_with (go_at_call 19; refine (c _).mono ?_; rintro r w' ⟨rfl, rfl⟩)
            go_loop [5] (fun u => ∃ f : Nat, i ≤ f ∧ f ≤ J ∧ u = .int .i64 f) (fun u => J - (intOf u).toNat)
            case atStart => exact ⟨i, Nat.le_refl _, by omega, rfl⟩
            case round =>
              obtain ⟨f, hf0, hf1, rfl⟩ := hrel
              have hi' : (i : Int) ≤ (f : Int) := by omega
              have hf' : (f : Int) ≤ (s.size : Int) := by omega
              by_cases hltf : f < J
              · have h1 : f < s.size := by omega
                have h1' : (f : Int) < (s.size : Int) := by omega
                have c2 := fun w => spaceB_no _ (sp_no (B3.out f h1 hf0 hltf)) w
                go_wp2_with (go_at_call 19; refine (c2 _).mono ?_; rintro r w' ⟨rfl, rfl⟩)
                go_round
                case rel => exact ⟨f + 1, by omega, by omega, by go_num⟩
                case measure => simp [intOf]; omega
              · obtain rfl : f = J := by omega
                by_cases hJs : f < s.size
                · have h1' : (f : Int) < (s.size : Int) := by omega
                  have c2 := fun w => spaceB_yes _ (sp_yes (B4.out hJs)) w
                  obtain ⟨y, hy⟩ : ∃ y, y = s.extract i f := ⟨_, rfl⟩
                  have Hy0 := word_piece s i f HJ.out
                  rw [← hy] at Hy0
                  have Hy : Hid (y.data.toList = (s.data.toList.drop i).take (eJ s.data.toList i - i)) := Hy0
                  have hye : s.extract i f = y := hy.symm
                  clear hy Hy0
                  go_wp2_with (go_at_call 19; refine (c2 _).mono ?_; rintro r w' ⟨rfl, rfl⟩)
                  go_roundw
                  case rel => exact ⟨3, f, x0, x1, y, x3, by omega, hJ1, by go_num, rfl, rfl, by have h := st_word2 HS.out hlt hsp Hy; rw [← HJ.out] at h; exact h⟩
                  case measure => simp [intOf]; omega
                · have h1' : (s.size : Int) ≤ (f : Int) := by omega
                  obtain ⟨y, hy⟩ : ∃ y, y = s.extract i f := ⟨_, rfl⟩
                  have Hy0 := word_piece s i f HJ.out
                  rw [← hy] at Hy0
                  have Hy : Hid (y.data.toList = (s.data.toList.drop i).take (eJ s.data.toList i - i)) := Hy0
                  have hye : s.extract i f = y := hy.symm
                  clear hy Hy0
                  go_wp2
                  go_roundw
                  case rel => exact ⟨3, f, x0, x1, y, x3, by omega, hJ1, by go_num, rfl, rfl, by have h := st_word2 HS.out hlt hsp Hy; rw [← HJ.out] at h; exact h⟩
                  case measure => simp [intOf]; omega
          · go_wp2_with (go_at_call 19; refine (c _).mono ?_; rintro r w' ⟨rfl, rfl⟩)
            go_loop [5] (fun u => ∃ f : Nat, i ≤ f ∧ f ≤ J ∧ u = .int .i64 f) (fun u => J - (intOf u).toNat)
            case atStart => exact ⟨i, Nat.le_refl _, by omega, rfl⟩
            case round =>
              obtain ⟨f, hf0, hf1, rfl⟩ := hrel
              have hi' : (i : Int) ≤ (f : Int) := by omega
              have hf' : (f : Int) ≤ (s.size : Int) := by omega
              by_cases hltf : f < J
              · have h1 : f < s.size := by omega
                have h1' : (f : Int) < (s.size : Int) := by omega
                have c2 := fun w => spaceB_no _ (sp_no (B3.out f h1 hf0 hltf)) w
                go_wp2_with (go_at_call 19; refine (c2 _).mono ?_; rintro r w' ⟨rfl, rfl⟩)
                go_round
                case rel => exact ⟨f + 1, by omega, by omega, by go_num⟩
                case measure => simp [intOf]; omega
              · obtain rfl : f = J := by omega
                by_cases hJs : f < s.size
                · have h1' : (f : Int) < (s.size : Int) := by omega
                  have c2 := fun w => spaceB_yes _ (sp_yes (B4.out hJs)) w
                  obtain ⟨y, hy⟩ : ∃ y, y = s.extract i f := ⟨_, rfl⟩
                  have Hy0 := word_piece s i f HJ.out
                  rw [← hy] at Hy0
                  have Hy : Hid (y.data.toList = (s.data.toList.drop i).take (eJ s.data.toList i - i)) := Hy0
                  have hye : s.extract i f = y := hy.symm
                  clear hy Hy0
                  go_wp2_with (go_at_call 19; refine (c2 _).mono ?_; rintro r w' ⟨rfl, rfl⟩)
                  go_roundw
                  case rel => exact ⟨4, f, x0, x1, x2, y, by omega, hJ1, by go_num, rfl, rfl, by have h := st_word3 HS.out hlt hsp Hy; rw [← HJ.out] at h; exact h⟩
                  case measure => simp [intOf]; omega
                · have h1' : (s.size : Int) ≤ (f : Int) := by omega
                  obtain ⟨y, hy⟩ : ∃ y, y = s.extract i f := ⟨_, rfl⟩
                  have Hy0 := word_piece s i f HJ.out
                  rw [← hy] at Hy0
                  have Hy : Hid (y.data.toList = (s.data.toList.drop i).take (eJ s.data.toList i - i)) := Hy0
                  have hye : s.extract i f = y := hy.symm
                  clear hy Hy0
                  go_wp2
                  go_roundw
                  case rel => exact ⟨4, f, x0, x1, x2, y, by omega, hJ1, by go_num, rfl, rfl, by have h := st_word3 HS.out hlt hsp Hy; rw [← HJ.out] at h; exact h⟩
                  case measure => simp [intOf]; omega
      · have hn4' : (4 : Int) ≤ (n : Int) := by omega
        have hd : decide ((n : Int) < 4) = false := by simp; omega
        have hE := st_end HS.out (Or.inr (by omega))
        have HE : Hid (n = (wordsN 4 s.data.toList).length ∧ x0.data.toList = w1 s.data.toList ∧ x1.data.toList = w1 (r1 s.data.toList) ∧ x2.data.toList = w1 (r1 (r1 s.data.toList))) := hE
        clear hE
        go_wp2
        exact bodyPost_ret (v := .tuple #[.agg #[.string x0, .string x1, .string x2, .string x3], .int .i64 n]) (by simp [results, Try.results14, go_sem]) rfl ⟨x0, x1, x2, x3, n, rfl, HE.out.1, HE.out.2.1, HE.out.2.2.1, HE.out.2.2.2, Grown.alloc (Grown.refl _) _ _⟩
    · have hge : (s.size : Int) ≤ (i : Int) := by omega
      have hE := st_end HS.out (Or.inl (by exact Nat.le_of_not_lt hlt))
      have HE : Hid (n = (wordsN 4 s.data.toList).length ∧ x0.data.toList = w1 s.data.toList ∧ x1.data.toList = w1 (r1 s.data.toList) ∧ x2.data.toList = w1 (r1 (r1 s.data.toList))) := hE
      clear hE
      go_wp2
      exact bodyPost_ret (v := .tuple #[.agg #[.string x0, .string x1, .string x2, .string x3], .int .i64 n]) (by simp [results, Try.results14, go_sem]) rfl ⟨x0, x1, x2, x3, n, rfl, HE.out.1, HE.out.2.1, HE.out.2.2.1, HE.out.2.2.2, Grown.alloc (Grown.refl _) _ _⟩

end Go.Proofs.Qxb6619230a
