/-
  THE WALK of compareIdentLists where two strings are alike below i and part at i.
-/
import Derived.Test.Qxb6619230aIdent
namespace Go.Proofs.Qxb6619230a
open Go.RowKit

/-- The test that ends the inner loop. -/
theorem go_on {a : ByteArray} {p A e : Nat} (h : Hid (NoDot a p A)) (h1 : p ≤ e) (h2 : e < A) (h3 : e < a.size) : ((a[e].toNat : Int) != 46) = true := by
  have := h.out e h1 h2 h3
  simp; omega
theorem stops {a : ByteArray} {A : Nat} (h : A < a.size) (h' : a[A].toNat = 46) : ((a[A].toNat : Int) != 46) = false := by
  simp; omega

theorem drew_on {w wr : World} (h : Hid (∃ n, wr = w.drewN n)) (nq : Nat) : ∃ n, wr.drewN nq = w.drewN n := by
  obtain ⟨n, rfl⟩ := h
  exact ⟨_, World.drewN_drewN _ _ _⟩
theorem comes_ne {a b : ByteArray} {i A B : Nat} {r : Int} (h : Hid (Comes a b i A B r)) (hr : (r != 0) = true) : r = sgn (ordAt a i) (ordAt b i) := by
  have hr' : r ≠ 0 := by simpa using hr
  rcases h.out with ⟨h0, _⟩ | ⟨_, h1⟩ | ⟨h0, _⟩
  · exact absurd h0 hr'
  · exact h1
  · exact absurd h0 hr'
theorem comes_dot {a b : ByteArray} {i A B : Nat} {r : Int} (h : Hid (Comes a b i A B r)) (hr : (r != 0) = false) (ha : A < a.size) (hb : B < b.size) : A < i ∧ B = A := by
  have hr' : r = 0 := by simpa using hr
  rcases h.out with ⟨_, h1, h2, _⟩ | ⟨h0, _⟩ | ⟨_, h1, h2, h3⟩
  · exact ⟨h1, h2⟩
  · exact absurd hr' h0
  · omega
theorem comes_ae {a b : ByteArray} {i A B : Nat} {r : Int} (h : Hid (Comes a b i A B r)) (hr : (r != 0) = false) (ha : A < a.size) (hb : b.size ≤ B) : sgn (ordAt a i) (ordAt b i) = 1 := by
  have hr' : r = 0 := by simpa using hr
  rcases h.out with ⟨_, h1, h2, h3, h4⟩ | ⟨h0, _⟩ | ⟨_, h1, h2, ⟨h3, h4, h5⟩ | ⟨h3, h4, h5⟩ | ⟨h3, h4, h5⟩⟩
  · omega
  · exact absurd hr' h0
  · omega
  · omega
  · exact h5
theorem comes_ea {a b : ByteArray} {i A B : Nat} {r : Int} (h : Hid (Comes a b i A B r)) (hr : (r != 0) = false) (ha : a.size ≤ A) (hb : B < b.size) : sgn (ordAt a i) (ordAt b i) = -1 := by
  have hr' : r = 0 := by simpa using hr
  rcases h.out with ⟨_, h1, h2, h3, h4⟩ | ⟨h0, _⟩ | ⟨_, h1, h2, ⟨h3, h4, h5⟩ | ⟨h3, h4, h5⟩ | ⟨h3, h4, h5⟩⟩
  · omega
  · exact absurd hr' h0
  · omega
  · exact h5
  · omega
theorem comes_ee {a b : ByteArray} {i A B : Nat} {r : Int} (h : Hid (Comes a b i A B r)) (hr : (r != 0) = false) (ha : a.size ≤ A) (hb : b.size ≤ B) : sgn (ordAt a i) (ordAt b i) = 0 := by
  have hr' : r = 0 := by simpa using hr
  rcases h.out with ⟨_, h1, h2, h3, h4⟩ | ⟨h0, _⟩ | ⟨_, h1, h2, ⟨h3, h4, h5⟩ | ⟨h3, h4, h5⟩ | ⟨h3, h4, h5⟩⟩
  · omega
  · exact absurd hr' h0
  · exact h5
  · omega
  · omega

set_option maxRecDepth 100000 in
set_option maxHeartbeats 1000000 in
theorem ident_any (a b : ByteArray) (i : Nat) (HP : Hid (Part a b i)) (hia : i ≤ a.size) (hib : i ≤ b.size) (ha : a.size ≤ 1048576) (hb : b.size ≤ 1048576) (w : World) :
    Calls Try.prog 12 #[.string a, .string b] w (CmpPost (sgn (ordAt a i) (ordAt b i)) w) := by
  go_enter Try.func12, Try.ntmps12
  go_wp2
  go_loopw [5, 6] (fun u v wr => ∃ p : Nat, p ≤ i ∧ u = .int .i64 p ∧ v = .int .i64 p ∧ Hid (∃ n, wr = w.drewN n)) (fun u _ _ => i + 1 - (intOf u).toNat)
  case atStart => exact ⟨0, Nat.zero_le _, rfl, rfl, ⟨0, rfl⟩⟩
  case round =>
    obtain ⟨p, hp, rfl, rfl, HW⟩ := hrel
    obtain ⟨A, hA0, hA1, hA2, hA3⟩ := stop_exists a p (by omega)
    obtain ⟨B, hB0, hB1, hB2, hB3⟩ := stop_exists b p (by omega)
    obtain ⟨d, r, hD, hd1, hd2, hC⟩ := comes HP.out hp hA0 hA1 hA2 hA3 hB0 hB1 hB2 hB3
    have sa := size_piece a p A hA1
    have c := fun w => cmp_any (a.extract p A) (b.extract p B) d r hD (by omega) hd1 hd2 w
    have HNA : Hid (NoDot a p A) := hA2
    have HNB : Hid (NoDot b p B) := hB2
    have HC : Hid (Comes a b i A B r) := hC
    have CC : Hid (∀ w : World, Calls Try.prog 18 #[.string (a.extract p A), .string (b.extract p B)] w fun e w' => e = .returned (.int .i64 r) ∧ ∃ m, w' = w.drewN m) := c
    clear hD hd1 hd2 hC hA2 hB2 sa c
    have hpA : (p : Int) ≤ (A : Int) := by omega
    have hpB : (p : Int) ≤ (B : Int) := by omega
    have hAa : (A : Int) ≤ (a.size : Int) := by omega
    have hBb : (B : Int) ≤ (b.size : Int) := by omega
    have SA : (A < a.size ∧ Hid (∀ h : A < a.size, a[A].toNat = 46)) ∨ (a.size : Int) ≤ A := by
      rcases hA3 with ⟨h, e⟩ | e
      · exact Or.inl ⟨h, fun _ => e⟩
      · exact Or.inr (by omega)
    have SB : (B < b.size ∧ Hid (∀ h : B < b.size, b[B].toNat = 46)) ∨ (b.size : Int) ≤ B := by
      rcases hB3 with ⟨h, e⟩ | e
      · exact Or.inl ⟨h, fun _ => e⟩
      · exact Or.inr (by omega)
    clear hA3 hB3
    rcases SA with ⟨qA, dA⟩ | qA
    · rcases SB with ⟨qB, dB⟩ | qB
      · have qA' : (A : Int) < (a.size : Int) := by omega
        have qB' : (B : Int) < (b.size : Int) := by omega
        go_wp2
        go_loop [7] (fun u => ∃ e : Nat, p ≤ e ∧ e ≤ A ∧ u = .int .i64 e) (fun u => A - (intOf u).toNat)
        case atStart => exact ⟨p, Nat.le_refl _, by omega, rfl⟩
        case round =>
          obtain ⟨e, he0, he1, rfl⟩ := hrel
          by_cases hlt : e < A
          · have h1 : e < a.size := by omega
            have h2 := go_on HNA he0 hlt h1
            go_wp2
            go_round
            case rel => exact ⟨e + 1, by omega, by omega, by go_num⟩
            case measure => simp [intOf]; omega
          · obtain rfl : e = A := by omega
            have h2 := stops qA (dA.out qA)
            go_wp2
            go_loop [8] (fun u => ∃ f : Nat, p ≤ f ∧ f ≤ B ∧ u = .int .i64 f) (fun u => B - (intOf u).toNat)
            case atStart => exact ⟨p, Nat.le_refl _, by omega, rfl⟩
            case round =>
              obtain ⟨f, hf0, hf1, rfl⟩ := hrel
              by_cases hltf : f < B
              · have h1 : f < b.size := by omega
                have h3 := go_on HNB hf0 hltf h1
                go_wp2
                go_round
                case rel => exact ⟨f + 1, by omega, by omega, by go_num⟩
                case measure => simp [intOf]; omega
              · obtain rfl : f = B := by omega
                have h3 := stops qB (dB.out qB)
                go_wp2
                go_quiet ((go_at_call 18; exact Calls.quiet_of (CC.out _)))
                cases hr : (r != 0) with
                | true =>
                  go_wp2
                  go_ret
                  exact ⟨by rw [← comes_ne HC hr]; rfl, drew_on HW nq⟩
                | false =>
                  have hdd := comes_dot HC hr qA qB
                  go_wp2
                  go_roundw
                  case rel => exact ⟨e + 1, by omega, by go_num, by go_num, drew_on HW nq⟩
                  case measure => simp [intOf]; omega
      · have qA' : (A : Int) < (a.size : Int) := by omega
        go_wp2
        go_loop [7] (fun u => ∃ e : Nat, p ≤ e ∧ e ≤ A ∧ u = .int .i64 e) (fun u => A - (intOf u).toNat)
        case atStart => exact ⟨p, Nat.le_refl _, by omega, rfl⟩
        case round =>
          obtain ⟨e, he0, he1, rfl⟩ := hrel
          by_cases hlt : e < A
          · have h1 : e < a.size := by omega
            have h2 := go_on HNA he0 hlt h1
            go_wp2
            go_round
            case rel => exact ⟨e + 1, by omega, by omega, by go_num⟩
            case measure => simp [intOf]; omega
          · obtain rfl : e = A := by omega
            have h2 := stops qA (dA.out qA)
            go_wp2
            go_loop [8] (fun u => ∃ f : Nat, p ≤ f ∧ f ≤ B ∧ u = .int .i64 f) (fun u => B - (intOf u).toNat)
            case atStart => exact ⟨p, Nat.le_refl _, by omega, rfl⟩
            case round =>
              obtain ⟨f, hf0, hf1, rfl⟩ := hrel
              by_cases hltf : f < B
              · have h1 : f < b.size := by omega
                have h3 := go_on HNB hf0 hltf h1
                go_wp2
                go_round
                case rel => exact ⟨f + 1, by omega, by omega, by go_num⟩
                case measure => simp [intOf]; omega
              · obtain rfl : f = B := by omega
                go_wp2
                go_quiet ((go_at_call 18; exact Calls.quiet_of (CC.out _)))
                cases hr : (r != 0) with
                | true =>
                  go_wp2
                  go_ret
                  exact ⟨by rw [← comes_ne HC hr]; rfl, drew_on HW nq⟩
                | false =>
                  have hR := comes_ae HC hr (by omega) (by omega)
                  have HR : Hid (sgn (ordAt a i) (ordAt b i) = 1) := hR
                  clear hR
                  go_wp2
                  go_ret
                  exact ⟨by rw [HR.out]; rfl, drew_on HW nq⟩
    · rcases SB with ⟨qB, dB⟩ | qB
      · have qB' : (B : Int) < (b.size : Int) := by omega
        go_wp2
        go_loop [7] (fun u => ∃ e : Nat, p ≤ e ∧ e ≤ A ∧ u = .int .i64 e) (fun u => A - (intOf u).toNat)
        case atStart => exact ⟨p, Nat.le_refl _, by omega, rfl⟩
        case round =>
          obtain ⟨e, he0, he1, rfl⟩ := hrel
          by_cases hlt : e < A
          · have h1 : e < a.size := by omega
            have h2 := go_on HNA he0 hlt h1
            go_wp2
            go_round
            case rel => exact ⟨e + 1, by omega, by omega, by go_num⟩
            case measure => simp [intOf]; omega
          · obtain rfl : e = A := by omega
            go_wp2
            go_loop [8] (fun u => ∃ f : Nat, p ≤ f ∧ f ≤ B ∧ u = .int .i64 f) (fun u => B - (intOf u).toNat)
            case atStart => exact ⟨p, Nat.le_refl _, by omega, rfl⟩
            case round =>
              obtain ⟨f, hf0, hf1, rfl⟩ := hrel
              by_cases hltf : f < B
              · have h1 : f < b.size := by omega
                have h3 := go_on HNB hf0 hltf h1
                go_wp2
                go_round
                case rel => exact ⟨f + 1, by omega, by omega, by go_num⟩
                case measure => simp [intOf]; omega
              · obtain rfl : f = B := by omega
                have h3 := stops qB (dB.out qB)
                go_wp2
                go_quiet ((go_at_call 18; exact Calls.quiet_of (CC.out _)))
                cases hr : (r != 0) with
                | true =>
                  go_wp2
                  go_ret
                  exact ⟨by rw [← comes_ne HC hr]; rfl, drew_on HW nq⟩
                | false =>
                  have hR := comes_ea HC hr (by omega) (by omega)
                  have HR : Hid (sgn (ordAt a i) (ordAt b i) = -1) := hR
                  clear hR
                  go_wp2
                  go_ret
                  exact ⟨by rw [HR.out]; rfl, drew_on HW nq⟩
      · go_wp2
        go_loop [7] (fun u => ∃ e : Nat, p ≤ e ∧ e ≤ A ∧ u = .int .i64 e) (fun u => A - (intOf u).toNat)
        case atStart => exact ⟨p, Nat.le_refl _, by omega, rfl⟩
        case round =>
          obtain ⟨e, he0, he1, rfl⟩ := hrel
          by_cases hlt : e < A
          · have h1 : e < a.size := by omega
            have h2 := go_on HNA he0 hlt h1
            go_wp2
            go_round
            case rel => exact ⟨e + 1, by omega, by omega, by go_num⟩
            case measure => simp [intOf]; omega
          · obtain rfl : e = A := by omega
            go_wp2
            go_loop [8] (fun u => ∃ f : Nat, p ≤ f ∧ f ≤ B ∧ u = .int .i64 f) (fun u => B - (intOf u).toNat)
            case atStart => exact ⟨p, Nat.le_refl _, by omega, rfl⟩
            case round =>
              obtain ⟨f, hf0, hf1, rfl⟩ := hrel
              by_cases hltf : f < B
              · have h1 : f < b.size := by omega
                have h3 := go_on HNB hf0 hltf h1
                go_wp2
                go_round
                case rel => exact ⟨f + 1, by omega, by omega, by go_num⟩
                case measure => simp [intOf]; omega
              · obtain rfl : f = B := by omega
                go_wp2
                go_quiet ((go_at_call 18; exact Calls.quiet_of (CC.out _)))
                cases hr : (r != 0) with
                | true =>
                  go_wp2
                  go_ret
                  exact ⟨by rw [← comes_ne HC hr]; rfl, drew_on HW nq⟩
                | false =>
                  have hR := comes_ee HC hr (by omega) (by omega)
                  have HR : Hid (sgn (ordAt a i) (ordAt b i) = 0) := hR
                  clear hR
                  go_wp2
                  go_ret
                  exact ⟨by rw [HR.out]; rfl, drew_on HW nq⟩

end Go.Proofs.Qxb6619230a
