/-
  THE WALK of 'FnOrderAtFirstDifference'.
-/
import Derived.Test.Qxb6619230aLists
namespace Go.Proofs.Qxb6619230a
open Go.RowKit

def SumPost (n : Nat) (w : World) (e : Ending) (w' : World) : Prop := ∃ b, e = .returned (.bool b) ∧ (b = true → n ≤ 1048576) ∧ w' = w

theorem bytes9_any (a b : ByteArray) (i : Int) (w : World) (ha : a.size ≤ 9223372036854775807) (hb : b.size ≤ 9223372036854775807) :
    Calls Try.prog 9 #[.string a, .string b, .int .i64 i] w (SumPost (a.size + b.size) w) := by
  go_enter Try.func9, Try.ntmps9
  go_wp2
  all_goals
    go_ret
    exact ⟨_, rfl, by first | omega | (intro _; omega) | (intro h; cases h), rfl⟩

theorem grown_drewN (w : World) (n : Nat) : Grown w (w.drewN n) := Grown.refl w

theorem same_of {a b : ByteArray} {k : Nat} (h : ((a.extract 0 k).toList == (b.extract 0 k).toList) = true) : ∀ j, j < k → a.data.toList[j]? = b.data.toList[j]? := by
  intro j hj
  have e : (a.extract 0 k).toList = (b.extract 0 k).toList := by simpa using h
  rw [Lib.toList_data, Lib.toList_data] at e
  rw [← (by simpa using piece_at a 0 k j (by omega) : (a.extract 0 k).data.toList[j]? = a.data.toList[j]?), ← (by simpa using piece_at b 0 k j (by omega) : (b.extract 0 k).data.toList[j]? = b.data.toList[j]?), e]

/-- Behind all the tests: the two answers are one. -/
def tailPost (w : World) (e : Ending) (w' : World) : Prop := e = .returned (.bool true) ∧ Grown w w'

/-- The two answers, for every world. -/
def Ends (a b : ByteArray) (k : Nat) (x y r : Int) : Prop :=
  (∀ w, Calls Try.prog 10 #[.string a, .int .i64 k] w fun e w' => e = .returned (.int .i64 x) ∧ w' = w) ∧ (∀ w, Calls Try.prog 10 #[.string b, .int .i64 k] w fun e w' => e = .returned (.int .i64 y) ∧ w' = w) ∧
  (∀ w, Calls Try.prog 11 #[.int .i64 (x - y)] w fun e w' => e = .returned (.int .i64 r) ∧ w' = w) ∧ (∀ w, Calls Try.prog 12 #[.string a, .string b] w (CmpPost r w))

theorem ends {a b : ByteArray} {k : Nat} (H : Part a b k) (hz : a.size + b.size ≤ 1048576) : ∃ x y r, -1 ≤ x ∧ x ≤ 255 ∧ -1 ≤ y ∧ y ≤ 255 ∧ Hid (Ends a b k x y r) := by
  have h1 := ordAt_bounds a k
  have h2 := ordAt_bounds b k
  exact ⟨ordAt a k, ordAt b k, sgn (ordAt a k) (ordAt b k), h1.1, h1.2, h2.1, h2.2, fun w => zzorder_any a k H.ha w, fun w => zzorder_any b k H.hb w, fun w => sign_any _ _ w, fun w => ident_any a b k H H.ha H.hb (by omega) (by omega) w⟩

set_option maxRecDepth 100000 in
set_option maxHeartbeats 1000000 in
theorem order_walk (a b : ByteArray) (i : Int) (ha : a.size ≤ 9223372036854775807) (hb : b.size ≤ 9223372036854775807) (w : World) :
    Calls Try.prog 4 #[.string a, .string b, .int .i64 i] w (tailPost w) := by
  have c1 := bytes9_any a b i w ha hb
  go_enter Try.func4, Try.ntmps4
  go_wp2_with fail
  refine c1.mono ?_
  rintro e w' ⟨b1, rfl, hb1, rfl⟩
  cases b1
  · go_wp2
    go_ret
    exact ⟨rfl, Grown.refl _⟩
  have hz : a.size + b.size ≤ 1048576 := hb1 rfl
  clear hb1 c1
  by_cases hi0 : i < 0
  · go_wp2
    go_ret
    exact ⟨rfl, Grown.refl _⟩
  by_cases hi1 : (a.size : Int) < i
  · go_wp2
    go_ret
    exact ⟨rfl, Grown.refl _⟩
  by_cases hi2 : (b.size : Int) < i
  · go_wp2
    go_ret
    exact ⟨rfl, Grown.refl _⟩
  obtain ⟨k, rfl⟩ : ∃ k : Nat, i = k := ⟨i.toNat, by omega⟩
  have hka : k ≤ a.size := by omega
  have hkb : k ≤ b.size := by omega
  have hka' : (k : Int) ≤ (a.size : Int) := by omega
  have hkb' : (k : Int) ≤ (b.size : Int) := by omega
  clear hi0 hi1 hi2
  go_wp2
  go_quiet (fail)
  cases heq : ((a.extract 0 k).toList == (b.extract 0 k).toList) with
  | false =>
    go_wp2
    go_ret
    exact ⟨rfl, grown_drewN _ _⟩
  | true =>
    have HS : Hid (∀ j, j < k → a.data.toList[j]? = b.data.toList[j]?) := same_of heq
    by_cases hla : k < a.size
    · have hla' : (k : Int) < (a.size : Int) := by omega
      cases hna : ((a[k].toNat : Int) == 0) with
      | true =>
        by_cases hlb : k < b.size
        · have hlb' : (k : Int) < (b.size : Int) := by omega
          cases hab : ((a[k].toNat : Int) == (b[k].toNat : Int)) with
          | true =>
            go_wp2
            go_quiet (fail)
            go_wp2
            go_ret
            exact ⟨rfl, by (try simp only [World.drewN_drewN]); exact grown_drewN _ _⟩
          | false =>
            go_wp2
            go_quiet (fail)
            go_wp2
            go_ret
            exact ⟨rfl, by (try simp only [World.drewN_drewN]); exact grown_drewN _ _⟩
        · have hlb' : (b.size : Int) ≤ (k : Int) := by omega
          have hd : decide ((k : Int) < (b.size : Int)) = false := by simp; omega
          go_wp2
          go_quiet (fail)
          go_wp2
          go_ret
          exact ⟨rfl, by (try simp only [World.drewN_drewN]); exact grown_drewN _ _⟩
      | false =>
        have na : a[k].toNat ≠ 0 := by simp at hna; omega
        by_cases hlb : k < b.size
        · have hlb' : (k : Int) < (b.size : Int) := by omega
          cases hab : ((a[k].toNat : Int) == (b[k].toNat : Int)) with
          | true =>
            go_wp2
            go_quiet (fail)
            go_wp2
            go_ret
            exact ⟨rfl, by (try simp only [World.drewN_drewN]); exact grown_drewN _ _⟩
          | false =>
            have nab : a[k].toNat ≠ b[k].toNat := by simp at hab; omega
            cases hnb : ((b[k].toNat : Int) == 0) with
            | true =>
              clear na nab
              go_wp2
              go_quiet (fail)
              go_wp2
              go_ret
              exact ⟨rfl, by (try simp only [World.drewN_drewN]); exact grown_drewN _ _⟩
            | false =>
              have nb : b[k].toNat ≠ 0 := by simp at hnb; omega
              have hP : Part a b k := ⟨hka, hkb, HS.out, fun _ _ => nab, fun _ => na, fun _ => nb⟩
              obtain ⟨x, y, r, hx1, hx2, hy1, hy2, HE⟩ := ends hP hz
              clear hP
              clear na nb nab
              go_wp2
              go_quiet (fail)
              go_wp2_with fail
              refine (HE.out.1 _).mono ?_
              rintro e w2 ⟨rfl, rfl⟩
              go_wp2_with fail
              refine (HE.out.2.1 _).mono ?_
              rintro e w2 ⟨rfl, rfl⟩
              go_wp2_with fail
              refine (HE.out.2.2.1 _).mono ?_
              rintro e w2 ⟨rfl, rfl⟩
              go_wp2_with fail
              refine (HE.out.2.2.2 _).mono ?_
              rintro e w2 ⟨rfl, n2, rfl⟩
              go_wp2
              go_ret
              exact ⟨rfl, by (try simp only [World.drewN_drewN]); exact grown_drewN _ _⟩
        · have hlb' : (b.size : Int) ≤ (k : Int) := by omega
          have hd : decide ((k : Int) < (b.size : Int)) = false := by simp; omega
          have hP : Part a b k := ⟨hka, hkb, HS.out, fun _ h => absurd h hlb, fun _ => na, fun h => absurd h hlb⟩
          obtain ⟨x, y, r, hx1, hx2, hy1, hy2, HE⟩ := ends hP hz
          clear hP
          clear na
          go_wp2
          go_quiet (fail)
          go_wp2_with fail
          refine (HE.out.1 _).mono ?_
          rintro e w2 ⟨rfl, rfl⟩
          go_wp2_with fail
          refine (HE.out.2.1 _).mono ?_
          rintro e w2 ⟨rfl, rfl⟩
          go_wp2_with fail
          refine (HE.out.2.2.1 _).mono ?_
          rintro e w2 ⟨rfl, rfl⟩
          go_wp2_with fail
          refine (HE.out.2.2.2 _).mono ?_
          rintro e w2 ⟨rfl, n2, rfl⟩
          go_wp2
          go_ret
          exact ⟨rfl, by (try simp only [World.drewN_drewN]); exact grown_drewN _ _⟩
    · have hla' : (a.size : Int) ≤ (k : Int) := by omega
      have hd : decide ((k : Int) < (a.size : Int)) = false := by simp; omega
      by_cases hlb : k < b.size
      · have hlb' : (k : Int) < (b.size : Int) := by omega
        cases hnb : ((b[k].toNat : Int) == 0) with
        | true =>
          go_wp2
          go_quiet (fail)
          go_wp2
          go_ret
          exact ⟨rfl, by (try simp only [World.drewN_drewN]); exact grown_drewN _ _⟩
        | false =>
          have nb : b[k].toNat ≠ 0 := by simp at hnb; omega
          have hP : Part a b k := ⟨hka, hkb, HS.out, fun h _ => absurd h hla, fun h => absurd h hla, fun _ => nb⟩
          obtain ⟨x, y, r, hx1, hx2, hy1, hy2, HE⟩ := ends hP hz
          clear hP
          clear nb
          go_wp2
          go_quiet (fail)
          go_wp2_with fail
          refine (HE.out.1 _).mono ?_
          rintro e w2 ⟨rfl, rfl⟩
          go_wp2_with fail
          refine (HE.out.2.1 _).mono ?_
          rintro e w2 ⟨rfl, rfl⟩
          go_wp2_with fail
          refine (HE.out.2.2.1 _).mono ?_
          rintro e w2 ⟨rfl, rfl⟩
          go_wp2_with fail
          refine (HE.out.2.2.2 _).mono ?_
          rintro e w2 ⟨rfl, n2, rfl⟩
          go_wp2
          go_ret
          exact ⟨rfl, by (try simp only [World.drewN_drewN]); exact grown_drewN _ _⟩
      · have hlb' : (b.size : Int) ≤ (k : Int) := by omega
        have hP : Part a b k := ⟨hka, hkb, HS.out, fun h _ => absurd h hla, fun h => absurd h hla, fun h => absurd h hlb⟩
        obtain ⟨x, y, r, hx1, hx2, hy1, hy2, HE⟩ := ends hP hz
        clear hP
        go_wp2
        go_quiet (fail)
        go_wp2_with fail
        refine (HE.out.1 _).mono ?_
        rintro e w2 ⟨rfl, rfl⟩
        go_wp2_with fail
        refine (HE.out.2.1 _).mono ?_
        rintro e w2 ⟨rfl, rfl⟩
        go_wp2_with fail
        refine (HE.out.2.2.1 _).mono ?_
        rintro e w2 ⟨rfl, rfl⟩
        go_wp2_with fail
        refine (HE.out.2.2.2 _).mono ?_
        rintro e w2 ⟨rfl, n2, rfl⟩
        go_wp2
        go_ret
        exact ⟨rfl, by (try simp only [World.drewN_drewN]); exact grown_drewN _ _⟩

end Go.Proofs.Qxb6619230a
