/-
  THE WALK of 'FnCutHyphenWords'.
-/
import Derived.Test.Qxb6619230aFirst
namespace Go.Proofs.Qxb6619230a
open Go.RowKit

theorem ba_same {x y : ByteArray} (h : x.data.toList = y.data.toList) : x = y := by
  cases x; cases y; simp at h; subst h; rfl
theorem w1_len (l : List UInt8) : (w1 l).length ≤ l.length := by
  unfold w1; rw [cutW_eq]; simp; omega
theorem r1_len (l : List UInt8) : (r1 l).length ≤ l.length := by
  unfold r1; rw [cutW_eq]; simp
theorem list_size (s : ByteArray) : s.data.toList.length = s.size := rfl
theorem list_append (a b : ByteArray) : (a ++ b).data.toList = a.data.toList ++ b.data.toList := by
  have : (a ++ b).data = a.data ++ b.data := ByteArray.data_append
  rw [this]; simp

/-- The cut of a text whose words are known. -/
theorem hy_text (s x0 x2 : ByteArray) (b : Bool) (hs : s.size ≤ 4194304) (h0 : x0.data.toList = w1 s.data.toList) (h2 : x2.data.toList = w1 (r1 (r1 s.data.toList)))
    (hb : b = true ↔ w1 (r1 s.data.toList) = [45] ∧ w1 (r1 (r1 (r1 s.data.toList))) = []) (w : World) :
    Calls Try.prog 15 #[.string s] w fun e w' => e = .returned (.tuple #[.string x0, .string x2, .bool b]) ∧ ∃ n, w' = w.drewN n := by
  refine (zzhyphen_any s hs w).mono ?_
  rintro e w' ⟨F, T, ok, rfl, h1, h3, h4, hn⟩
  have e1 : F = x0 := ba_same (by rw [h1, h0])
  have e2 : T = x2 := ba_same (by rw [h3, h2])
  have e3 : ok = b := by
    rw [Bool.eq_iff_iff]; exact h4.trans hb.symm
  subst e1; subst e2; subst e3
  exact ⟨rfl, hn⟩

/-- What was joined is cut again. -/
theorem hy_joined (s x0 x2 : ByteArray) (hs : s.size ≤ 1048576) (h0 : x0.data.toList = w1 s.data.toList) (h2 : x2.data.toList = w1 (r1 (r1 s.data.toList))) (hne : w1 s.data.toList ≠ []) (w : World) :
    Calls Try.prog 15 #[.string (x0 ++ ⟨#[32, 45, 32]⟩ ++ x2)] w fun e w' => e = .returned (.tuple #[.string x0, .string x2, .bool true]) ∧ ∃ n, w' = w.drewN n := by
  have el : (x0 ++ (⟨#[32, 45, 32]⟩ : ByteArray) ++ x2).data.toList = x0.data.toList ++ ([32, 45, 32] ++ x2.data.toList) := by
    rw [list_append, list_append, List.append_assoc]
  have hj := joined x0.data.toList x2.data.toList (by rw [h0]; exact hne) (by rw [h0]; exact w1_nsp _) (by rw [h2]; exact w1_nsp _)
  have hz : (x0 ++ (⟨#[32, 45, 32]⟩ : ByteArray) ++ x2).size ≤ 4194304 := by
    have l0 : x0.size ≤ 1048576 := by rw [← list_size, h0]; have := w1_len s.data.toList; rw [list_size] at this; omega
    have l2 : x2.size ≤ 1048576 := by
      rw [← list_size, h2]
      have a1 := w1_len (r1 (r1 s.data.toList))
      have a2 := r1_len (r1 s.data.toList)
      have a3 := r1_len s.data.toList
      rw [list_size] at a3; omega
    have hl := congrArg List.length el
    rw [list_size] at hl
    simp only [List.length_append, list_size, List.length_cons, List.length_nil] at hl
    omega
  refine hy_text _ x0 x2 true hz ?_ ?_ ?_ w
  · rw [el]; exact hj.1.symm
  · rw [el]; exact hj.2.2.1.symm
  · rw [el]; exact ⟨fun _ => ⟨hj.2.1, hj.2.2.2⟩, fun _ => rfl⟩

def SzPost (n : Nat) (w : World) (e : Ending) (w' : World) : Prop := ∃ b, e = .returned (.bool b) ∧ (b = true → n ≤ 1048576) ∧ w' = w

theorem bytes13_any (s : ByteArray) (w : World) (hs : s.size ≤ 9223372036854775807) :
    Calls Try.prog 13 #[.string s] w (SzPost s.size w) := by
  go_enter Try.func13, Try.ntmps13
  go_wp2
  all_goals
    go_ret
    exact ⟨_, rfl, by first | omega | (intro _; omega) | (intro h; cases h), rfl⟩

theorem grown_on {w wa : World} (h : Hid (Grown w wa)) (c : Array Value) (t : TypeId) (n : Nat) : Grown w ((wa.alloc (.cells c t)).drewN n) := Grown.alloc h.out c t

/-- The answer's bool, told by the count and the second word. -/
theorem ok_true {l : List UInt8} {n : Nat} {x1 : ByteArray} (hn : n = (wordsN 4 l).length) (h1 : x1.data.toList = w1 (r1 l)) (h : (x1.toList == [45]) = true) (h23 : n = 2 ∨ n = 3) :
    (true = true ↔ w1 (r1 l) = [45] ∧ w1 (r1 (r1 (r1 l))) = []) ∧ w1 l ≠ [] := by
  have h45 := (is_hyphen h h1).1 rfl
  have hne : w1 (r1 l) ≠ [] := by rw [h45]; simp
  have hc := count_ok l hne
  rw [← hn] at hc
  refine ⟨⟨fun _ => ⟨h45, hc.1 h23⟩, fun _ => rfl⟩, fun e => ?_⟩
  rw [r1_empty e] at hne
  exact hne rfl
theorem ok_false {l : List UInt8} {n : Nat} {x1 : ByteArray} (hn : n = (wordsN 4 l).length) (h1 : x1.data.toList = w1 (r1 l)) (h : (x1.toList == [45]) = false ∨ (n ≠ 2 ∧ n ≠ 3)) :
    (false = true ↔ w1 (r1 l) = [45] ∧ w1 (r1 (r1 (r1 l))) = []) := by
  refine ⟨fun e => by (cases e), fun ⟨a, b⟩ => ?_⟩
  rcases h with h | ⟨h2, h3⟩
  · exact (is_hyphen h h1).2 a
  · have hne : w1 (r1 l) ≠ [] := by rw [a]; simp
    have hc := (count_ok l hne).2 b
    rw [← hn] at hc
    omega

set_option maxRecDepth 100000 in
set_option maxHeartbeats 1000000 in
theorem hyph_walk (s : ByteArray) (hs : s.size ≤ 9223372036854775807) (w : World) :
    Calls Try.prog 5 #[.string s] w fun e w' => e = .returned (.bool true) ∧ Grown w w' := by
  have c1 := bytes13_any s w hs
  go_enter Try.func5, Try.ntmps5
  go_wp2_with fail
  refine c1.mono ?_
  rintro e w' ⟨b, rfl, hb, rfl⟩
  cases b
  · go_wp2
    go_ret
    exact ⟨rfl, Grown.refl _⟩
  have hz : s.size ≤ 1048576 := hb rfl
  clear hb c1
  go_wp2_with fail
  refine (first_any s hz _).mono ?_
  rintro e wa ⟨x0, x1, x2, x3, n, rfl, hn, h0, h1, h2, hg⟩
  have HG : Hid (Grown w' wa) := hg
  clear hg
  have l0 : x0.size ≤ 1048576 := by rw [← list_size, h0]; have := w1_len s.data.toList; rw [list_size] at this; omega
  have l2 : x2.size ≤ 1048576 := by
    rw [← list_size, h2]
    have a1 := w1_len (r1 (r1 s.data.toList))
    have a2 := r1_len (r1 s.data.toList)
    have a3 := r1_len s.data.toList
    rw [list_size] at a3; omega
  cases h45 : (x1.toList == [45]) with
  | false =>
    have A : Hid (∀ w, Calls Try.prog 15 #[.string s] w fun e w' => e = .returned (.tuple #[.string x0, .string x2, .bool false]) ∧ ∃ n, w' = w.drewN n) := fun w => hy_text s x0 x2 false (by omega) h0 h2 (ok_false hn h1 (Or.inl h45)) w
    clear hn h0 h1 h2
    by_cases n2 : n = 2
    · subst n2
      go_wp2_with fail
      refine (A.out _).mono ?_
      rintro e w2 ⟨rfl, m, rfl⟩
      go_wp2
      go_ret
      exact ⟨rfl, grown_on HG _ _ _⟩
    · by_cases n3 : n = 3
      · subst n3
        go_wp2_with fail
        refine (A.out _).mono ?_
        rintro e w2 ⟨rfl, m, rfl⟩
        go_wp2
        go_ret
        exact ⟨rfl, grown_on HG _ _ _⟩
      · have n2' : ((n : Int) == 2) = false := by simp; omega
        have n3' : ((n : Int) == 3) = false := by simp; omega
        go_wp2_with fail
        refine (A.out _).mono ?_
        rintro e w2 ⟨rfl, m, rfl⟩
        go_wp2
        go_ret
        exact ⟨rfl, grown_on HG _ _ _⟩
  | true =>
    by_cases n23 : n = 2 ∨ n = 3
    · have ok := ok_true hn h1 h45 n23
      have A : Hid (∀ w, Calls Try.prog 15 #[.string s] w fun e w' => e = .returned (.tuple #[.string x0, .string x2, .bool true]) ∧ ∃ n, w' = w.drewN n) := fun w => hy_text s x0 x2 true (by omega) h0 h2 ok.1 w
      have C : Hid (∀ w, Calls Try.prog 15 #[.string (x0 ++ ⟨#[32, 45, 32]⟩ ++ x2)] w fun e w' => e = .returned (.tuple #[.string x0, .string x2, .bool true]) ∧ ∃ n, w' = w.drewN n) := fun w => hy_joined s x0 x2 hz h0 h2 ok.2 w
      clear hn h0 h1 h2 ok
      rcases n23 with rfl | rfl
      · go_wp2_with fail
        refine (A.out _).mono ?_
        rintro e w2 ⟨rfl, m, rfl⟩
        go_wp2_with fail
        refine (C.out _).mono ?_
        rintro e w3 ⟨rfl, m3, rfl⟩
        go_wp2
        go_ret
        exact ⟨rfl, by (try simp only [World.drewN_drewN]); exact grown_on HG _ _ _⟩
      · go_wp2_with fail
        refine (A.out _).mono ?_
        rintro e w2 ⟨rfl, m, rfl⟩
        go_wp2_with fail
        refine (C.out _).mono ?_
        rintro e w3 ⟨rfl, m3, rfl⟩
        go_wp2
        go_ret
        exact ⟨rfl, by (try simp only [World.drewN_drewN]); exact grown_on HG _ _ _⟩
    · have A : Hid (∀ w, Calls Try.prog 15 #[.string s] w fun e w' => e = .returned (.tuple #[.string x0, .string x2, .bool false]) ∧ ∃ n, w' = w.drewN n) := fun w => hy_text s x0 x2 false (by omega) h0 h2 (ok_false hn h1 (Or.inr (by omega))) w
      clear hn h0 h1 h2
      have n2' : ((n : Int) == 2) = false := by simp; omega
      have n3' : ((n : Int) == 3) = false := by simp; omega
      clear n23
      go_wp2_with fail
      refine (A.out _).mono ?_
      rintro e w2 ⟨rfl, m, rfl⟩
      go_wp2
      go_ret
      exact ⟨rfl, grown_on HG _ _ _⟩

end Go.Proofs.Qxb6619230a
