/-
  THE WALKS of encUvarint and uvarintAt, at numbers below 2^21: one, two or three bytes.
-/
import Derived.Test.Qxb6619230aProg
import Derived.WalkKit
import Derived.WalkSpells
import Derived.WalkLawsBesides
import Derived.Lib.Strings
import Derived.Laws.BitsAllLaws
import Derived.Laws.IdiomStrings
namespace Go.Proofs.Qxb6619230a
open Go.RowKit

theorem or_128 : ∀ y : Fin 128, y.val ||| 128 = y.val + 128 := by decide
theorem or_high (x : Nat) (hx : x < 4294967296) : bits .or .u8 (bits .and .u64 (x : Int) 127 % 256) 128 = (x : Int) % 128 + 128 := by
  have h1 : bits .and .u64 (x : Int) 127 = ((x % 128 : Nat) : Int) := by
    have := u64_and_nat x 127 (by omega) (by omega)
    rw [Nat.and_two_pow_sub_one_eq_mod x 7] at this
    exact this
  have h2 : ((x % 128 : Nat) : Int) % 256 = ((x % 128 : Nat) : Int) := by omega
  rw [h1, h2]
  have h3 := u8_or_nat (x % 128) 128 (by omega) (by omega)
  have h4 := or_128 ⟨x % 128, by omega⟩
  have h5 : x % 128 ||| 128 = x % 128 + 128 := h4
  rw [h5] at h3
  have h6 : bits .or .u8 ((x % 128 : Nat) : Int) 128 = ((x % 128 + 128 : Nat) : Int) := h3
  rw [h6]; omega

theorem conv_row (w : World) (cs : Array Value) (t : TypeId) (l : List UInt8) (h : ∀ j (hj : j < l.length), cs[j]? = some (.int .u8 (l[j].toNat : Int))) :
    (convert 39 9 (.slice (some ⟨w.heap.size, 0, none⟩) l.length 10)).run Try.prog (w.alloc (.cells cs t)) = .ok (.string ⟨l.toArray⟩) (w.alloc (.cells cs t)) := by
  refine run_convert_bytes_back (P := Try.prog) (w.alloc (.cells cs t)) 39 9 5 ⟨w.heap.size, 0, none⟩ 10 l Try.underlying39 Try.underlying5 Try.underlying9 ?_
  intro j hj
  have ea : Addr.add ⟨w.heap.size, 0, none⟩ j = ⟨w.heap.size, j, none⟩ := by cases j <;> simp [Addr.add]
  have hb : (w.alloc (.cells cs t)).heap[w.heap.size]? = some (.cells cs t (0, 0)) := by
    show (w.heap.push _)[w.heap.size]? = _
    simp
  rw [ea]
  simp only [World.cell?, hb, h j hj]
  rfl

/-- The byte of a number. -/
def byt (n : Nat) : UInt8 := UInt8.ofNat n
theorem byt_nat {n : Nat} (h : n < 256) : (byt n).toNat = n := by unfold byt; simp [UInt8.toNat_ofNat']; omega

set_option maxRecDepth 100000 in
theorem enc_one (m : Nat) (h : m < 128) (w : World) :
    Calls Try.prog 8 #[.int .i64 m] w fun e w' => e = .returned (.string ⟨#[byt m]⟩) ∧ Grown w w' := by
  have hcv : (convert 39 9 (.slice (some ⟨w.heap.size, 0, none⟩) 1 10)).run Try.prog (w.alloc (.cells #[.int .u8 (m : Int), .int .u8 0, .int .u8 0, .int .u8 0, .int .u8 0, .int .u8 0, .int .u8 0, .int .u8 0, .int .u8 0, .int .u8 0] 37)) = _ :=
    conv_row w _ 37 [byt m] (by
      intro j hj
      match j, hj with
      | 0, _ => simp [byt_nat (show m < 256 by omega)])
  go_enter Try.func8, Try.ntmps8
  go_wp2
  refine wp_loop_rounds 1 ?_
  rw [rounds_succ]
  go_wp2
  go_ret
  exact ⟨rfl, Grown.alloc (Grown.refl _) _ _⟩

set_option maxRecDepth 100000 in
theorem enc_two (m : Nat) (h : 128 ≤ m) (h2 : m < 16384) (w : World) :
    Calls Try.prog 8 #[.int .i64 m] w fun e w' => e = .returned (.string ⟨#[byt (m % 128 + 128), byt (m / 128)]⟩) ∧ Grown w w' := by
  have e1 := or_high m (by omega)
  have hcv : (convert 39 9 (.slice (some ⟨w.heap.size, 0, none⟩) 2 10)).run Try.prog (w.alloc (.cells #[.int .u8 ((m : Int) % 128 + 128), .int .u8 ((m : Int) / 128), .int .u8 0, .int .u8 0, .int .u8 0, .int .u8 0, .int .u8 0, .int .u8 0, .int .u8 0, .int .u8 0] 37)) = _ :=
    conv_row w _ 37 [byt (m % 128 + 128), byt (m / 128)] (by
      intro j hj
      match j, hj with
      | 0, _ => simp [byt_nat (show m % 128 + 128 < 256 by omega)]
      | 1, _ => simp [byt_nat (show m / 128 < 256 by omega)])
  go_enter Try.func8, Try.ntmps8
  go_wp2
  refine wp_loop_rounds 2 ?_
  rw [rounds_succ]
  go_wp2
  rw [rounds_succ]
  go_wp2
  go_ret
  exact ⟨rfl, Grown.alloc (Grown.refl _) _ _⟩

set_option maxRecDepth 100000 in
theorem enc_three (m : Nat) (h : 16384 ≤ m) (h2 : m < 2097152) (w : World) :
    Calls Try.prog 8 #[.int .i64 m] w fun e w' => e = .returned (.string ⟨#[byt (m % 128 + 128), byt (m / 128 % 128 + 128), byt (m / 128 / 128)]⟩) ∧ Grown w w' := by
  have e1 := or_high m (by omega)
  have e2 : bits .or .u8 (bits .and .u64 ((m : Int) / 128) 127 % 256) 128 = (m : Int) / 128 % 128 + 128 := or_high (m / 128) (by omega)
  have hcv : (convert 39 9 (.slice (some ⟨w.heap.size, 0, none⟩) 3 10)).run Try.prog (w.alloc (.cells #[.int .u8 ((m : Int) % 128 + 128), .int .u8 ((m : Int) / 128 % 128 + 128), .int .u8 ((m : Int) / 128 / 128), .int .u8 0, .int .u8 0, .int .u8 0, .int .u8 0, .int .u8 0, .int .u8 0, .int .u8 0] 37)) = _ :=
    conv_row w _ 37 [byt (m % 128 + 128), byt (m / 128 % 128 + 128), byt (m / 128 / 128)] (by
      intro j hj
      match j, hj with
      | 0, _ => simp [byt_nat (show m % 128 + 128 < 256 by omega)]
      | 1, _ => simp [byt_nat (show m / 128 % 128 + 128 < 256 by omega)]
      | 2, _ => simp [byt_nat (show m / 128 / 128 < 256 by omega)])
  go_enter Try.func8, Try.ntmps8
  go_wp2
  refine wp_loop_rounds 3 ?_
  rw [rounds_succ]
  go_wp2
  rw [rounds_succ]
  go_wp2
  rw [rounds_succ]
  go_wp2
  go_ret
  exact ⟨rfl, Grown.alloc (Grown.refl _) _ _⟩

/-! ### uvarintAt -/
theorem ret_pair {a b c d : Int} (h1 : a = c) (h2 : b = d) : Ending.returned (.tuple #[.int .u64 a, .int .i64 b]) = .returned (.tuple #[.int .u64 c, .int .i64 d]) := by rw [h1, h2]

set_option maxRecDepth 100000 in
theorem var_one (s : ByteArray) (k m : Nat) (hk : k < s.size) (hs : s.size ≤ 1048576) (h0 : s[k].toNat = m) (hm : m < 128) (w : World) :
    Calls Try.prog 21 #[.string s, .int .i64 k] w fun e w' => e = .returned (.tuple #[.int .u64 m, .int .i64 (k + 1 : Nat)]) ∧ w' = w := by
  go_enter Try.func21, Try.ntmps21
  go_wp2
  refine wp_loop_rounds 1 ?_
  rw [rounds_succ]
  go_wp2
  go_ret2
  exact ⟨ret_pair (by omega) (by omega), rfl⟩

set_option maxRecDepth 100000 in
theorem var_two (s : ByteArray) (k b0 b1 : Nat) (hk : k + 1 < s.size) (hs : s.size ≤ 1048576) (h0 : s[k].toNat = b0) (h1 : s[k + 1].toNat = b1) (hb0 : 128 ≤ b0) (hb0' : b0 < 256) (hb1 : 1 ≤ b1) (hb1' : b1 < 128) (w : World) :
    Calls Try.prog 21 #[.string s, .int .i64 k] w fun e w' => e = .returned (.tuple #[.int .u64 (b0 - 128 + b1 * 128 : Nat), .int .i64 (k + 2 : Nat)]) ∧ w' = w := by
  go_enter Try.func21, Try.ntmps21
  go_wp2
  refine wp_loop_rounds 2 ?_
  rw [rounds_succ]
  go_wp2
  rw [rounds_succ]
  go_wp2
  go_ret2
  exact ⟨ret_pair (by omega) (by omega), rfl⟩

set_option maxRecDepth 100000 in
theorem var_three (s : ByteArray) (k b0 b1 b2 : Nat) (hk : k + 1 + 1 < s.size) (hs : s.size ≤ 1048576) (h0 : s[k].toNat = b0) (h1 : s[k + 1].toNat = b1) (h2 : s[k + 1 + 1].toNat = b2) (hb0 : 128 ≤ b0) (hb0' : b0 < 256) (hb1 : 128 ≤ b1) (hb1' : b1 < 256) (hb2 : 1 ≤ b2) (hb2' : b2 < 128) (w : World) :
    Calls Try.prog 21 #[.string s, .int .i64 k] w fun e w' => e = .returned (.tuple #[.int .u64 (b0 - 128 + (b1 - 128) * 128 + b2 * 16384 : Nat), .int .i64 (k + 3 : Nat)]) ∧ w' = w := by
  go_enter Try.func21, Try.ntmps21
  go_wp2
  refine wp_loop_rounds 3 ?_
  rw [rounds_succ]
  go_wp2
  rw [rounds_succ]
  go_wp2
  rw [rounds_succ]
  go_wp2
  go_ret2
  exact ⟨ret_pair (by omega) (by omega), rfl⟩

end Go.Proofs.Qxb6619230a
