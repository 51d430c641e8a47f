/-
  THE WALKS of compareBytes, orderAt, sign.
-/
import Derived.Test.Qxb6619230aProg
import Derived.WalkKit
import Derived.WalkSpells
import Derived.WalkLawsBesides
import Derived.Lib.Strings
import Derived.Deep.QuietTactic
import Derived.BigQuiet
namespace Go.Proofs.Qxb6619230a
open Go.RowKit

/-- x and y are alike below d; what stands at d tells r. -/
def Diff (x y : ByteArray) (d : Nat) (r : Int) : Prop :=
  (∀ j, j < d → x.data.toList[j]? = y.data.toList[j]?) ∧
  ((d = x.size ∧ d = y.size ∧ r = 0) ∨ (d = x.size ∧ d < y.size ∧ r = -1) ∨ (d < x.size ∧ d = y.size ∧ r = 1) ∨
    (∃ (hx : d < x.size) (hy : d < y.size), x[d].toNat < y[d].toNat ∧ r = -1) ∨ (∃ (hx : d < x.size) (hy : d < y.size), y[d].toNat < x[d].toNat ∧ r = 1))

theorem same_at {x y : ByteArray} {d k : Nat} (h : ∀ j, j < d → x.data.toList[j]? = y.data.toList[j]?) (hk : k < d) (hx : k < x.size) (hy : k < y.size) : x[k].toNat = y[k].toNat := by
  have := h k hk
  rw [List.getElem?_eq_getElem (by simpa using hx), List.getElem?_eq_getElem (by simpa using hy)] at this
  have := Option.some.inj this
  have e : x[k] = y[k] := this
  rw [e]

def CmpPost (r : Int) (w : World) (e : Ending) (w' : World) : Prop := e = .returned (.int .i64 r) ∧ ∃ n, w' = w.drewN n

set_option maxRecDepth 100000 in
set_option maxHeartbeats 400000 in
theorem cmp_any (x y : ByteArray) (d : Nat) (r : Int) (HD : Hid (Diff x y d r)) (hx : x.size ≤ 1048576) (hdx : d ≤ x.size) (hdy : d ≤ y.size) (w : World) :
    Calls Try.prog 18 #[.string x, .string y] w (CmpPost r w) := by
  go_enter Try.func18, Try.ntmps18
  go_wp2
  go_loopw [5] (fun i wr => ∃ k n : Nat, k ≤ d ∧ i = .int .i64 k ∧ wr = w.drewN n) (fun i _ => d - (intOf i).toNat)
  case atStart => exact ⟨0, 0, Nat.zero_le _, rfl, rfl⟩
  case round =>
    obtain ⟨k, n, hk, rfl, rfl⟩ := hrel
    by_cases hlt : k < d
    · have hkx : k < x.size := by omega
      have hky : k < y.size := by omega
      have hkx' : (k : Int) < (x.size : Int) := by omega
      have hky' : (k : Int) < (y.size : Int) := by omega
      have heq := same_at HD.out.1 hlt hkx hky
      go_wp2
      go_quiet (fail)
      go_wp2
      go_quiet (fail)
      go_wp2
      go_roundw
      case rel => exact ⟨k + 1, _, by omega, by go_num, rfl⟩
      case measure => simp [intOf]; omega
    · obtain rfl : k = d := by omega
      rcases HD.out.2 with ⟨h1, h2, rfl⟩ | ⟨h1, h2, rfl⟩ | ⟨h1, h2, rfl⟩ | ⟨h1, h2, h3, rfl⟩ | ⟨h1, h2, h3, rfl⟩
      · have g1 : (x.size : Int) ≤ (k : Int) := by omega
        have g2 : (y.size : Int) ≤ (k : Int) := by omega
        clear h1 h2
        go_wp2
        go_ret
        exact ⟨rfl, _, rfl⟩
      · have g1 : (x.size : Int) ≤ (k : Int) := by omega
        have g2 : (k : Int) < (y.size : Int) := by omega
        clear h1 h2
        go_wp2
        go_ret
        exact ⟨rfl, _, rfl⟩
      · have g1 : (k : Int) < (x.size : Int) := by omega
        have g2 : (y.size : Int) ≤ (k : Int) := by omega
        clear h1 h2
        go_wp2
        go_ret
        exact ⟨rfl, _, rfl⟩
      · have g1 : (k : Int) < (x.size : Int) := by omega
        have g2 : (k : Int) < (y.size : Int) := by omega
        have g3 : (x[k].toNat : Int) < (y[k].toNat : Int) := by omega
        go_wp2
        go_quiet (fail)
        go_wp2
        go_ret
        exact ⟨rfl, _, World.drewN_drewN _ _ _⟩
      · have g1 : (k : Int) < (x.size : Int) := by omega
        have g2 : (k : Int) < (y.size : Int) := by omega
        have g3 : (y[k].toNat : Int) < (x[k].toNat : Int) := by omega
        go_wp2
        go_quiet (fail)
        go_wp2
        go_quiet (fail)
        go_wp2
        go_ret
        exact ⟨rfl, _, by rw [World.drewN_drewN, World.drewN_drewN]⟩

/-! ### orderAt, sign -/
/-- How a string orders at a place: it ends there; a dot; a byte. -/
def ordAt (s : ByteArray) (i : Nat) : Int := if h : i < s.size then (if s[i].toNat = 46 then 0 else s[i].toNat) else -1

theorem ordAt_bounds (s : ByteArray) (i : Nat) : -1 ≤ ordAt s i ∧ ordAt s i ≤ 255 := by
  unfold ordAt
  split
  · split
    · omega
    · have := (s[i]'(by assumption)).toNat_lt; omega
  · omega

theorem order_any (s : ByteArray) (i : Nat) (hi : i ≤ s.size) (w : World) :
    Calls Try.prog 17 #[.string s, .int .i64 i] w fun e w' => e = .returned (.int .i64 (ordAt s i)) ∧ w' = w := by
  unfold ordAt
  by_cases h : i < s.size
  · have h' : (i : Int) < (s.size : Int) := by omega
    rw [dif_pos h]
    by_cases hd : s[i].toNat = 46
    · rw [if_pos hd]
      have hd' : ((s[i].toNat : Int) == 46) = true := by simp; omega
      clear hd
      go_enter Try.func17, Try.ntmps17
      go_wp2
      go_ret
      exact ⟨rfl, rfl⟩
    · rw [if_neg hd]
      have hd' : ((s[i].toNat : Int) == 46) = false := by simp; omega
      have hb : (s[i].toNat : Int) ≤ 255 := by have := s[i].toNat_lt; omega
      clear hd
      go_enter Try.func17, Try.ntmps17
      go_wp2
      go_ret
      exact ⟨rfl, rfl⟩
  · rw [dif_neg h]
    have h' : (s.size : Int) ≤ (i : Int) := by omega
    go_enter Try.func17, Try.ntmps17
    go_wp2
    go_ret
    exact ⟨rfl, rfl⟩

theorem zzorder_any (s : ByteArray) (i : Nat) (hi : i ≤ s.size) (w : World) :
    Calls Try.prog 10 #[.string s, .int .i64 i] w fun e w' => e = .returned (.int .i64 (ordAt s i)) ∧ w' = w := by
  have H := order_any s i hi w
  go_enter Try.func10, Try.ntmps10
  go_wp2_with fail
  refine H.mono ?_
  rintro e w' ⟨rfl, rfl⟩
  go_wp2
  go_ret
  exact ⟨rfl, rfl⟩

def sgn (x y : Int) : Int := if x < y then -1 else if y < x then 1 else 0

theorem sign_any (x y : Int) (w : World) :
    Calls Try.prog 11 #[.int .i64 (x - y)] w fun e w' => e = .returned (.int .i64 (sgn x y)) ∧ w' = w := by
  unfold sgn
  by_cases a : x < y
  · rw [if_pos a]
    go_enter Try.func11, Try.ntmps11
    go_wp2
    go_ret
    exact ⟨rfl, rfl⟩
  · rw [if_neg a]
    by_cases b : y < x
    · rw [if_pos b]
      go_enter Try.func11, Try.ntmps11
      go_wp2
      go_ret
      exact ⟨rfl, rfl⟩
    · rw [if_neg b]
      go_enter Try.func11, Try.ntmps11
      go_wp2
      go_ret
      exact ⟨rfl, rfl⟩

end Go.Proofs.Qxb6619230a
