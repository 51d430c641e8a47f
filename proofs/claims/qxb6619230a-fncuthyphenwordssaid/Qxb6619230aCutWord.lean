/-
  THE WALKS of isSpace, isSpaceByte, cutWord, cutHyphen.
-/
import Derived.Test.Qxb6619230aProg
import Derived.Test.Qxb6619230aWords
import Derived.WalkKit
import Derived.WalkSpells
import Derived.WalkLawsBesides
import Derived.Lib.Strings
import Derived.Deep.QuietTactic
import Derived.BigQuiet
namespace Go.Proofs.Qxb6619230a
open Go.RowKit

theorem space_yes (x : Int) (h : x = 32 ∨ (9 ≤ x ∧ x ≤ 13)) (w : World) : Calls Try.prog 23 #[.int .u8 x] w fun e w' => e = .returned (.bool true) ∧ w' = w := by
  rcases h with rfl | ⟨h1, h2⟩
  · go_enter Try.func23, Try.ntmps23
    go_wp2
    go_ret
    exact ⟨rfl, rfl⟩
  · have h3 : (x == 32) = false := by simp; omega
    go_enter Try.func23, Try.ntmps23
    go_wp2
    go_ret
    exact ⟨rfl, rfl⟩
theorem space_no (x : Int) (h : ¬ (x = 32 ∨ (9 ≤ x ∧ x ≤ 13))) (w : World) : Calls Try.prog 23 #[.int .u8 x] w fun e w' => e = .returned (.bool false) ∧ w' = w := by
  have h3 : (x == 32) = false := by simp; omega
  by_cases h1 : x < 9
  · clear h
    go_enter Try.func23, Try.ntmps23
    go_wp2
    go_ret
    exact ⟨rfl, rfl⟩
  · have h2 : 13 < x := by omega
    have h4 : decide (x ≤ 13) = false := by simp; omega
    clear h
    go_enter Try.func23, Try.ntmps23
    go_wp2
    go_ret
    exact ⟨rfl, rfl⟩
theorem spaceB_yes (x : Int) (h : x = 32 ∨ (9 ≤ x ∧ x ≤ 13)) (w : World) : Calls Try.prog 19 #[.int .u8 x] w fun e w' => e = .returned (.bool true) ∧ w' = w := by
  rcases h with rfl | ⟨h1, h2⟩
  · go_enter Try.func19, Try.ntmps19
    go_wp2
    go_ret
    exact ⟨rfl, rfl⟩
  · have h3 : (x == 32) = false := by simp; omega
    go_enter Try.func19, Try.ntmps19
    go_wp2
    go_ret
    exact ⟨rfl, rfl⟩
theorem spaceB_no (x : Int) (h : ¬ (x = 32 ∨ (9 ≤ x ∧ x ≤ 13))) (w : World) : Calls Try.prog 19 #[.int .u8 x] w fun e w' => e = .returned (.bool false) ∧ w' = w := by
  have h3 : (x == 32) = false := by simp; omega
  by_cases h1 : x < 9
  · clear h
    go_enter Try.func19, Try.ntmps19
    go_wp2
    go_ret
    exact ⟨rfl, rfl⟩
  · have h2 : 13 < x := by omega
    have h4 : decide (x ≤ 13) = false := by simp; omega
    clear h
    go_enter Try.func19, Try.ntmps19
    go_wp2
    go_ret
    exact ⟨rfl, rfl⟩

/-- The contracts, by the plain law's words. -/
theorem sp_yes {c : UInt8} (h : sp c = true) : (c.toNat : Int) = 32 ∨ (9 ≤ (c.toNat : Int) ∧ (c.toNat : Int) ≤ 13) := by
  have := of_decide_eq_true h; omega
theorem sp_no {c : UInt8} (h : sp c = false) : ¬ ((c.toNat : Int) = 32 ∨ (9 ≤ (c.toNat : Int) ∧ (c.toNat : Int) ≤ 13)) := by
  have := of_decide_eq_false h; omega

def CutPost (s : ByteArray) (w : World) (e : Ending) (w' : World) : Prop :=
  ∃ W R : ByteArray, e = .returned (.tuple #[.string W, .string R]) ∧ W.data.toList = w1 s.data.toList ∧ R.data.toList = r1 s.data.toList ∧ R.size ≤ s.size ∧ ∃ n, w' = w.drewN n

theorem cut_parts (s : ByteArray) : (s.extract (wI s.data.toList) (wJ s.data.toList)).data.toList = w1 s.data.toList ∧ (s.extract (wJ s.data.toList) s.size).data.toList = r1 s.data.toList := by
  have e := cutW_eq s.data.toList
  constructor
  · rw [Lib.extract_data]; unfold w1; rw [e]
  · rw [Lib.extract_data]; unfold r1; rw [e]
    apply List.take_of_length_le
    rw [List.length_drop]; exact Nat.le_refl _

theorem size_tail (s : ByteArray) (j : Nat) : (s.extract j s.size).size ≤ s.size := by
  have := ByteArray.size_extract (a := s) (b := j) (e := s.size)
  omega

set_option maxRecDepth 100000 in
set_option maxHeartbeats 400000 in
theorem cutWord_any (s : ByteArray) (hs : s.size ≤ 4194304) (w : World) : Calls Try.prog 22 #[.string s] w (CutPost s w) := by
  obtain ⟨I, hI⟩ : ∃ I, I = wI s.data.toList := ⟨_, rfl⟩
  obtain ⟨J, hJ⟩ : ∃ J, J = wJ s.data.toList := ⟨_, rfl⟩
  have hl : s.data.toList.length = s.size := rfl
  have hI1 : I ≤ s.size := by rw [hI]; exact wI_le _
  have hIJ : I ≤ J := by rw [hI, hJ]; exact wI_wJ _
  have hJ1 : J ≤ s.size := by rw [hJ]; exact wJ_le _
  have B1 : Hid (∀ j (h : j < s.size), j < I → sp s[j] = true) := fun j h hj => before_I (by rw [← hI]; exact hj) h
  have B2 : Hid (∀ (h : I < s.size), sp s[I] = false) := by
    intro h; subst hI; exact at_I h
  have B3 : Hid (∀ j (h : j < s.size), I ≤ j → j < J → sp s[j] = false) := fun j h h1 h2 => before_J (by rw [← hI]; exact h1) (by rw [← hJ]; exact h2) h
  have B4 : Hid (∀ (h : J < s.size), sp s[J] = true) := by
    intro h; subst hJ; exact at_J h
  have HE : Hid ((s.extract I J).data.toList = w1 s.data.toList ∧ (s.extract J s.size).data.toList = r1 s.data.toList) := by rw [hI, hJ]; exact cut_parts s
  clear hI hJ hl
  have hI1' : (I : Int) ≤ (s.size : Int) := by omega
  have hIJ' : (I : Int) ≤ (J : Int) := by omega
  have hJ1' : (J : Int) ≤ (s.size : Int) := by omega
  go_enter Try.func22, Try.ntmps22
  go_wp2
  go_loop [4] (fun u => ∃ e : Nat, e ≤ I ∧ u = .int .i64 e) (fun u => I - (intOf u).toNat)
  case atStart => exact ⟨0, Nat.zero_le _, rfl⟩
  case round =>
    obtain ⟨e, he1, rfl⟩ := hrel
    by_cases hlt : e < I
    · have h1 : e < s.size := by omega
      have h1' : (e : Int) < (s.size : Int) := by omega
      have c := fun w => space_yes _ (sp_yes (B1.out e h1 hlt)) w
      go_wp2_with (go_at_call 23; refine (c _).mono ?_; rintro r w' ⟨rfl, rfl⟩)
      go_round
      case rel => exact ⟨e + 1, by omega, by go_num⟩
      case measure => simp [intOf]; omega
    · obtain rfl : e = I := by omega
      by_cases hIs : e < s.size
      · have h1' : (e : Int) < (s.size : Int) := by omega
        have c := fun w => space_no _ (sp_no (B2.out hIs)) w
        go_wp2_with (go_at_call 23; refine (c _).mono ?_; rintro r w' ⟨rfl, rfl⟩)
        go_loop [5] (fun u => ∃ f : Nat, e ≤ f ∧ f ≤ J ∧ u = .int .i64 f) (fun u => J - (intOf u).toNat)
        case atStart => exact ⟨e, Nat.le_refl _, by omega, rfl⟩
        case round =>
          obtain ⟨f, hf0, hf1, rfl⟩ := hrel
          by_cases hltf : f < J
          · have h1 : f < s.size := by omega
            have h1' : (f : Int) < (s.size : Int) := by omega
            have c := fun w => space_no _ (sp_no (B3.out f h1 hf0 hltf)) w
            go_wp2_with (go_at_call 23; refine (c _).mono ?_; rintro r w' ⟨rfl, rfl⟩)
            go_round
            case rel => exact ⟨f + 1, by omega, by omega, by go_num⟩
            case measure => simp [intOf]; omega
          · obtain rfl : f = J := by omega
            by_cases hJs : f < s.size
            · have h1' : (f : Int) < (s.size : Int) := by omega
              have c := fun w => space_yes _ (sp_yes (B4.out hJs)) w
              go_wp2_with (go_at_call 23; refine (c _).mono ?_; rintro r w' ⟨rfl, rfl⟩)
              go_quiet (fail)
              go_wp2
              go_ret2
              exact ⟨_, _, rfl, HE.out.1, HE.out.2, size_tail s f, _, rfl⟩
            · have h1' : (s.size : Int) ≤ (f : Int) := by omega
              go_wp2
              go_quiet (fail)
              go_wp2
              go_ret2
              exact ⟨_, _, rfl, HE.out.1, HE.out.2, size_tail s f, _, rfl⟩
      · have h1' : (s.size : Int) ≤ (e : Int) := by omega
        go_wp2
        go_loop [5] (fun u => ∃ f : Nat, e ≤ f ∧ f ≤ J ∧ u = .int .i64 f) (fun u => J - (intOf u).toNat)
        case atStart => exact ⟨e, Nat.le_refl _, by omega, rfl⟩
        case round =>
          obtain ⟨f, hf0, hf1, rfl⟩ := hrel
          by_cases hltf : f < J
          · have h1 : f < s.size := by omega
            have h1' : (f : Int) < (s.size : Int) := by omega
            have c := fun w => space_no _ (sp_no (B3.out f h1 hf0 hltf)) w
            go_wp2_with (go_at_call 23; refine (c _).mono ?_; rintro r w' ⟨rfl, rfl⟩)
            go_round
            case rel => exact ⟨f + 1, by omega, by omega, by go_num⟩
            case measure => simp [intOf]; omega
          · obtain rfl : f = J := by omega
            by_cases hJs : f < s.size
            · have h1' : (f : Int) < (s.size : Int) := by omega
              have c := fun w => space_yes _ (sp_yes (B4.out hJs)) w
              go_wp2_with (go_at_call 23; refine (c _).mono ?_; rintro r w' ⟨rfl, rfl⟩)
              go_quiet (fail)
              go_wp2
              go_ret2
              exact ⟨_, _, rfl, HE.out.1, HE.out.2, size_tail s f, _, rfl⟩
            · have h1' : (s.size : Int) ≤ (f : Int) := by omega
              go_wp2
              go_quiet (fail)
              go_wp2
              go_ret2
              exact ⟨_, _, rfl, HE.out.1, HE.out.2, size_tail s f, _, rfl⟩

/-! ### cutHyphen -/
def HyPost (l : List UInt8) (w : World) (e : Ending) (w' : World) : Prop :=
  ∃ (F T : ByteArray) (ok : Bool), e = .returned (.tuple #[.string F, .string T, .bool ok]) ∧ F.data.toList = w1 l ∧ T.data.toList = w1 (r1 (r1 l)) ∧ (ok = true ↔ w1 (r1 l) = [45] ∧ w1 (r1 (r1 (r1 l))) = []) ∧ ∃ n, w' = w.drewN n

theorem is_hyphen {x : ByteArray} {l : List UInt8} {b : Bool} (h : (x.toList == [45]) = b) (e : x.data.toList = l) : b = true ↔ l = [45] := by
  rw [Lib.toList_data, e] at h
  subst h; simp
theorem is_none {x : ByteArray} {l : List UInt8} {b : Bool} (h : x.toList.isEmpty = b) (e : x.data.toList = l) : b = true ↔ l = [] := by
  rw [Lib.toList_data, e] at h
  subst h; simp

set_option maxRecDepth 100000 in
theorem hyphen_any (s : ByteArray) (hs : s.size ≤ 4194304) (w : World) : Calls Try.prog 20 #[.string s] w (HyPost s.data.toList w) := by
  have c1 := cutWord_any s hs w
  go_enter Try.func20, Try.ntmps20
  go_wp2_with fail
  refine c1.mono ?_
  rintro e w' ⟨W1, R1, rfl, hW1, hR1, z1, n1, rfl⟩
  have A1 : Hid (W1.data.toList = w1 s.data.toList) := hW1
  have D1 : Hid (R1.data.toList = r1 s.data.toList) := hR1
  clear hW1 hR1 c1
  go_wp2_with fail
  refine (cutWord_any R1 (by omega) _).mono ?_
  rintro e w' ⟨W2, R2, rfl, hW2, hR2, z2, n2, rfl⟩
  have A2 : Hid (W2.data.toList = w1 (r1 s.data.toList)) := by rw [D1.out] at hW2; exact hW2
  have D2 : Hid (R2.data.toList = r1 (r1 s.data.toList)) := by rw [D1.out] at hR2; exact hR2
  clear hW2 hR2
  go_wp2_with fail
  refine (cutWord_any R2 (by omega) _).mono ?_
  rintro e w' ⟨W3, R3, rfl, hW3, hR3, z3, n3, rfl⟩
  have A3 : Hid (W3.data.toList = w1 (r1 (r1 s.data.toList))) := by rw [D2.out] at hW3; exact hW3
  have D3 : Hid (R3.data.toList = r1 (r1 (r1 s.data.toList))) := by rw [D2.out] at hR3; exact hR3
  clear hW3 hR3
  go_wp2_with fail
  refine (cutWord_any R3 (by omega) _).mono ?_
  rintro e w' ⟨W4, R4, rfl, hW4, hR4, z4, n4, rfl⟩
  have A4 : Hid (W4.data.toList = w1 (r1 (r1 (r1 s.data.toList)))) := by rw [D3.out] at hW4; exact hW4
  clear hW4 hR4
  cases h2 : (W2.toList == [45]) with
  | false =>
    have k2 := is_hyphen h2 A2.out
    have HH : Hid (false = true ↔ w1 (r1 s.data.toList) = [45] ∧ w1 (r1 (r1 (r1 s.data.toList))) = []) := by
      constructor
      · intro h; cases h
      · intro h; exact k2.2 h.1
    clear k2
    go_wp2
    go_ret3
    exact ⟨W1, W3, false, rfl, A1, A3, by simpa using HH.out, _, rfl⟩
  | true =>
    have k2 := is_hyphen h2 A2.out
    cases h4 : W4.toList.isEmpty with
    | false =>
      have k4 := is_none h4 A4.out
      have HH : Hid (false = true ↔ w1 (r1 s.data.toList) = [45] ∧ w1 (r1 (r1 (r1 s.data.toList))) = []) := by
        constructor
        · intro h; cases h
        · intro h; exact k4.2 h.2
      clear k2 k4
      go_wp2
      go_ret3
      exact ⟨W1, W3, false, rfl, A1, A3, by simpa using HH.out, _, rfl⟩
    | true =>
      have k4 := is_none h4 A4.out
      have HH : Hid (true = true ↔ w1 (r1 s.data.toList) = [45] ∧ w1 (r1 (r1 (r1 s.data.toList))) = []) := ⟨fun _ => ⟨k2.1 rfl, k4.1 rfl⟩, fun _ => rfl⟩
      clear k2 k4
      go_wp2
      go_ret3
      exact ⟨W1, W3, true, rfl, A1, A3, by simpa using HH.out, _, rfl⟩

theorem zzhyphen_any (s : ByteArray) (hs : s.size ≤ 4194304) (w : World) : Calls Try.prog 15 #[.string s] w (HyPost s.data.toList w) := by
  have c1 := hyphen_any s hs w
  go_enter Try.func15, Try.ntmps15
  go_wp2_with fail
  refine c1.mono ?_
  rintro e w' ⟨F, T, ok, rfl, h1, h2, h3, n, rfl⟩
  have HH : Hid (F.data.toList = w1 s.data.toList ∧ T.data.toList = w1 (r1 (r1 s.data.toList)) ∧ (ok = true ↔ w1 (r1 s.data.toList) = [45] ∧ w1 (r1 (r1 (r1 s.data.toList))) = [])) := ⟨h1, h2, h3⟩
  clear h1 h2 h3 c1
  go_wp2
  go_ret3
  exact ⟨F, T, ok, rfl, HH.out.1, HH.out.2.1, HH.out.2.2, n, rfl⟩

end Go.Proofs.Qxb6619230a
