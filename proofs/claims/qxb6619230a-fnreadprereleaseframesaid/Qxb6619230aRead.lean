/-
  THE WALK of 'FnReadPrereleaseFrame'.
-/
import Derived.Test.Qxb6619230aEnc
namespace Go.Proofs.Qxb6619230a
open Go.RowKit

theorem ba_ext {x y : ByteArray} (h : x.data.toList = y.data.toList) : x = y := by
  cases x; cases y; simp at h; subst h; rfl
theorem size_list (s : ByteArray) : s.data.toList.length = s.size := by simp
theorem append_list (a b : ByteArray) : (a ++ b).data.toList = a.data.toList ++ b.data.toList := by
  have : (a ++ b).data = a.data ++ b.data := ByteArray.data_append
  rw [this]; simp

/-- The byte at a place of a piece. -/
theorem piece_get {t e : ByteArray} {q j : Nat} (hq : q + e.size ≤ t.size) (h : (t.extract q (q + e.size)).toList = e.toList) (hj : j < e.size) : t[q + j]'(by omega) = e[j] := by
  rw [Lib.toList_data, Lib.toList_data, Lib.extract_data] at h
  have h1 : ((t.data.toList.drop q).take (q + e.size - q))[j]? = e.data.toList[j]? := by rw [h]
  rw [List.getElem?_take_of_lt (by omega), List.getElem?_drop] at h1
  have ht : q + j < t.data.toList.length := by rw [size_list]; omega
  have he : j < e.data.toList.length := by rw [size_list]; exact hj
  rw [List.getElem?_eq_getElem ht, List.getElem?_eq_getElem he] at h1
  have h2 := Option.some.inj h1
  exact h2

/-- What is written by encUvarint for n is read by uvarintAt as n, wherever it stands. -/
def EncOK (e : ByteArray) (n : Nat) : Prop :=
  1 ≤ e.size ∧ e.size ≤ 3 ∧ ∀ (t : ByteArray) (q : Nat) (w : World), q + e.size ≤ t.size → t.size ≤ 1048576 → (t.extract q (q + e.size)).toList = e.toList →
    Calls Try.prog 21 #[.string t, .int .i64 q] w fun r w' => r = .returned (.tuple #[.int .u64 n, .int .i64 (q + e.size : Nat)]) ∧ w' = w

theorem encOK_one (m : Nat) (h : m < 128) : EncOK ⟨#[byt m]⟩ m := by
  refine ⟨by show 1 ≤ 1; omega, by show 1 ≤ 3; omega, fun t q w hq hs he => ?_⟩
  have h0 := piece_get hq he (j := 0) (by show 0 < 1; omega)
  have e0 : t[q]'(by have : (⟨#[byt m]⟩ : ByteArray).size = 1 := rfl; omega) = byt m := h0
  exact var_one t q m _ hs (by rw [e0]; exact byt_nat (by omega)) h w

theorem encOK_two (m : Nat) (h : 128 ≤ m) (h2 : m < 16384) : EncOK ⟨#[byt (m % 128 + 128), byt (m / 128)]⟩ m := by
  refine ⟨by show 1 ≤ 2; omega, by show 2 ≤ 3; omega, fun t q w hq hs he => ?_⟩
  have hsz : (⟨#[byt (m % 128 + 128), byt (m / 128)]⟩ : ByteArray).size = 2 := rfl
  have h0 := piece_get hq he (j := 0) (by rw [hsz]; omega)
  have h1 := piece_get hq he (j := 1) (by rw [hsz]; omega)
  have e0 : t[q]'(by omega) = byt (m % 128 + 128) := h0
  have e1 : t[q + 1]'(by omega) = byt (m / 128) := h1
  have := var_two t q (m % 128 + 128) (m / 128) (by omega) hs (by rw [e0]; exact byt_nat (by omega)) (by rw [e1]; exact byt_nat (by omega)) (by omega) (by omega) (by omega) (by omega) w
  have en : m % 128 + 128 - 128 + m / 128 * 128 = m := by omega
  rw [en] at this
  exact this

theorem encOK_three (m : Nat) (h : 16384 ≤ m) (h2 : m < 2097152) : EncOK ⟨#[byt (m % 128 + 128), byt (m / 128 % 128 + 128), byt (m / 128 / 128)]⟩ m := by
  refine ⟨by show 1 ≤ 3; omega, by show 3 ≤ 3; omega, fun t q w hq hs he => ?_⟩
  have hsz : (⟨#[byt (m % 128 + 128), byt (m / 128 % 128 + 128), byt (m / 128 / 128)]⟩ : ByteArray).size = 3 := rfl
  have h0 := piece_get hq he (j := 0) (by rw [hsz]; omega)
  have h1 := piece_get hq he (j := 1) (by rw [hsz]; omega)
  have h2' := piece_get hq he (j := 2) (by rw [hsz]; omega)
  have e0 : t[q]'(by omega) = byt (m % 128 + 128) := h0
  have e1 : t[q + 1]'(by omega) = byt (m / 128 % 128 + 128) := h1
  have e2 : t[q + 1 + 1]'(by omega) = byt (m / 128 / 128) := h2'
  have := var_three t q (m % 128 + 128) (m / 128 % 128 + 128) (m / 128 / 128) (by omega) hs (by rw [e0]; exact byt_nat (by omega)) (by rw [e1]; exact byt_nat (by omega)) (by rw [e2]; exact byt_nat (by omega)) (by omega) (by omega) (by omega) (by omega) (by omega) (by omega) w
  have en : m % 128 + 128 - 128 + (m / 128 % 128 + 128 - 128) * 128 + m / 128 / 128 * 16384 = m := by omega
  rw [en] at this
  exact this

def EncPost (n : Nat) (w : World) (r : Ending) (w' : World) : Prop := ∃ e, r = .returned (.string e) ∧ EncOK e n ∧ Grown w w'

theorem enc_any (n : Nat) (h : n < 2097152) (w : World) : Calls Try.prog 8 #[.int .i64 n] w (EncPost n w) := by
  by_cases h1 : n < 128
  · refine (enc_one n h1 w).mono ?_
    rintro r w' ⟨rfl, hg⟩
    exact ⟨_, rfl, encOK_one n h1, hg⟩
  · by_cases h2 : n < 16384
    · refine (enc_two n (by omega) h2 w).mono ?_
      rintro r w' ⟨rfl, hg⟩
      exact ⟨_, rfl, encOK_two n (by omega) h2, hg⟩
    · refine (enc_three n (by omega) h w).mono ?_
      rintro r w' ⟨rfl, hg⟩
      exact ⟨_, rfl, encOK_three n (by omega) h, hg⟩

/-! ### readPrerelease -/
theorem read_zero (s : ByteArray) (i head : Int) (h0 : 0 ≤ head) (h1 : head < 32) (w : World) :
    Calls Try.prog 16 #[.string s, .int .i64 i, .int .u8 head] w fun e w' => e = .returned (.tuple #[.string ⟨#[]⟩, .int .i64 i]) ∧ w' = w := by
  go_enter Try.func16, Try.ntmps16
  go_wp2
  go_ret2
  exact ⟨rfl, rfl⟩
theorem read_one (s : ByteArray) (i head : Int) (h0 : 32 ≤ head) (h1 : head < 64) (w : World) :
    Calls Try.prog 16 #[.string s, .int .i64 i, .int .u8 head] w fun e w' => e = .returned (.tuple #[.string ⟨#[48]⟩, .int .i64 i]) ∧ w' = w := by
  go_enter Try.func16, Try.ntmps16
  go_wp2
  go_ret2
  exact ⟨rfl, rfl⟩

theorem tail_piece (s : ByteArray) (j n : Nat) (h : j + n ≤ s.size) : (s.extract j s.size).extract 0 n = s.extract j (j + n) := by
  apply ba_ext
  rw [Lib.extract_data, Lib.extract_data, Lib.extract_data]
  simp only [List.drop_zero, List.take_take, Nat.sub_zero]
  congr 1
  omega

theorem read_more (s : ByteArray) (k n j : Nat) (head : Int) (h0 : 64 ≤ head) (h1 : head ≤ 255) (hj : j ≤ s.size) (hn : j + n ≤ s.size) (hs : s.size ≤ 1048576) (w : World)
    (H : Calls Try.prog 21 #[.string s, .int .i64 k] w fun r w' => r = .returned (.tuple #[.int .u64 n, .int .i64 j]) ∧ w' = w) :
    Calls Try.prog 16 #[.string s, .int .i64 k, .int .u8 head] w fun e w' => e = .returned (.tuple #[.string (s.extract j (j + n)), .int .i64 ((j : Int) + n)]) ∧ w' = w := by
  have ht := tail_piece s j n hn
  go_enter Try.func16, Try.ntmps16
  go_wp2_with fail
  refine H.mono ?_
  rintro e w' ⟨rfl, rfl⟩
  go_wp2
  go_ret2
  exact ⟨rfl, rfl⟩

theorem zz_read (s p : ByteArray) (i j head : Int) (w : World) (H : Calls Try.prog 16 #[.string s, .int .i64 i, .int .u8 head] w fun e w' => e = .returned (.tuple #[.string p, .int .i64 j]) ∧ w' = w) :
    Calls Try.prog 7 #[.string s, .int .i64 i, .int .u8 head] w fun e w' => e = .returned (.tuple #[.string p, .int .i64 j]) ∧ w' = w := by
  go_enter Try.func7, Try.ntmps7
  go_wp2_with fail
  refine H.mono ?_
  rintro e w' ⟨rfl, rfl⟩
  go_wp2
  go_ret2
  exact ⟨rfl, rfl⟩

def SizePost (n : Nat) (w : World) (e : Ending) (w' : World) : Prop := ∃ b, e = .returned (.bool b) ∧ (b = true → n ≤ 1048576) ∧ w' = w

theorem bytes6_any (s pre : ByteArray) (i head m : Int) (w : World) (hs : s.size ≤ 9223372036854775807) (hp : pre.size ≤ 9223372036854775807) :
    Calls Try.prog 6 #[.string s, .int .i64 i, .int .u8 head, .int .i64 m, .string pre] w (SizePost (s.size + pre.size) w) := by
  go_enter Try.func6, Try.ntmps6
  go_wp2
  all_goals
    go_ret
    exact ⟨_, rfl, by first | omega | (intro _; omega) | (intro h; cases h), rfl⟩

/-- The same piece, with a string ahead of it. -/
theorem piece_after (pre s : ByteArray) (a b : Nat) (h : a ≤ b) : (pre ++ s).extract (a + pre.size) (b + pre.size) = s.extract a b := by
  apply ba_ext
  rw [Lib.extract_data, Lib.extract_data, append_list]
  have e1 : (pre.data.toList ++ s.data.toList).drop (a + pre.size) = s.data.toList.drop a := by
    rw [List.drop_append]
    have : pre.data.toList.drop (a + pre.size) = [] := by apply List.drop_eq_nil_of_le; rw [size_list]; omega
    rw [this, size_list, List.nil_append]
    congr 1; omega
  rw [e1]
  congr 1; omega

theorem size_append (a b : ByteArray) : (a ++ b).size = a.size + b.size := ByteArray.size_append

set_option maxRecDepth 100000 in
set_option maxHeartbeats 400000 in
theorem read_walk (s pre : ByteArray) (i head m : Int) (hs : s.size ≤ 9223372036854775807) (hp : pre.size ≤ 9223372036854775807) (hh0 : 0 ≤ head) (hh1 : head ≤ 255) (w : World) :
    Calls Try.prog 3 #[.string s, .int .i64 i, .int .u8 head, .int .i64 m, .string pre] w fun e w' => e = .returned (.bool true) ∧ Grown w w' := by
  have c1 := bytes6_any s pre i head m w hs hp
  go_enter Try.func3, Try.ntmps3
  go_wp2_with fail
  refine c1.mono ?_
  rintro e w' ⟨b, rfl, hb, rfl⟩
  cases b
  · go_wp2
    go_ret
    exact ⟨rfl, Grown.refl _⟩
  have hz : s.size + pre.size ≤ 1048576 := hb rfl
  clear hb c1
  by_cases hi0 : i < 0
  · go_wp2
    go_ret
    exact ⟨rfl, Grown.refl _⟩
  by_cases hi1 : (s.size : Int) < i
  · go_wp2
    go_ret
    exact ⟨rfl, Grown.refl _⟩
  obtain ⟨k, rfl⟩ : ∃ k : Nat, i = k := ⟨i.toNat, by omega⟩
  have hk : k ≤ s.size := by omega
  clear hi0 hi1
  by_cases hh32 : head < 32
  · have r1 := zz_read s ⟨#[]⟩ k k head w' (read_zero s k head hh0 hh32 w')
    have r2 := zz_read (pre ++ s) ⟨#[]⟩ ((k : Int) + pre.size) ((k : Int) + pre.size) head w' (read_zero (pre ++ s) ((k : Int) + pre.size) head hh0 hh32 w')
    go_wp2_with fail
    refine r1.mono ?_
    rintro e w' ⟨rfl, rfl⟩
    go_wp2_with fail
    refine r2.mono ?_
    rintro e w' ⟨rfl, rfl⟩
    go_wp2
    go_ret
    exact ⟨rfl, Grown.refl _⟩
  by_cases hh64 : head < 64
  · have r1 := zz_read s ⟨#[48]⟩ k k head w' (read_one s k head (by omega) hh64 w')
    have r2 := zz_read (pre ++ s) ⟨#[48]⟩ ((k : Int) + pre.size) ((k : Int) + pre.size) head w' (read_one (pre ++ s) ((k : Int) + pre.size) head (by omega) hh64 w')
    go_wp2_with fail
    refine r1.mono ?_
    rintro e w' ⟨rfl, rfl⟩
    go_wp2_with fail
    refine r2.mono ?_
    rintro e w' ⟨rfl, rfl⟩
    go_wp2
    go_ret
    exact ⟨rfl, Grown.refl _⟩
  by_cases hm0 : m < 0
  · go_wp2
    go_ret
    exact ⟨rfl, Grown.refl _⟩
  by_cases hm1 : (s.size : Int) < m
  · go_wp2
    go_ret
    exact ⟨rfl, Grown.refl _⟩
  obtain ⟨n, rfl⟩ : ∃ n : Nat, m = n := ⟨m.toNat, by omega⟩
  have hn : n ≤ s.size := by omega
  clear hm0 hm1
  have c2 := enc_any n (by omega) w'
  go_wp2_with fail
  refine c2.mono ?_
  rintro r w1 ⟨e, rfl, hE, hg⟩
  have HE : Hid (EncOK e n) := hE
  have HG : Hid (Grown w' w1) := hg
  have he1 : 1 ≤ e.size := hE.1
  have he3 : e.size ≤ 3 := hE.2.1
  clear hE hg c2
  by_cases hst : (s.size : Int) < (k : Int) + e.size
  · go_wp2
    go_ret
    exact ⟨rfl, HG⟩
  by_cases hmm : (s.size : Int) - ((k : Int) + e.size) < (n : Int)
  · go_wp2
    go_ret
    exact ⟨rfl, HG⟩
  cases heq : ((s.extract k (k + e.size)).toList == e.toList) with
  | false =>
    go_wp2
    go_ret
    exact ⟨rfl, HG⟩
  | true =>
    have heq' : (s.extract k (k + e.size)).toList = e.toList := by simpa using heq
    have hsz : (pre ++ s).size = pre.size + s.size := size_append pre s
    have heq2 : ((pre ++ s).extract (k + pre.size) (k + pre.size + e.size)).toList = e.toList := by
      have : k + pre.size + e.size = k + e.size + pre.size := by omega
      rw [this, piece_after pre s k (k + e.size) (by omega)]; exact heq'
    have v1 := HE.out.2.2 s k w1 (by omega) (by omega) heq'
    have v2 := HE.out.2.2 (pre ++ s) (k + pre.size) w1 (by omega) (by omega) heq2
    have r1 := zz_read s _ k _ head w1 (read_more s k n (k + e.size) head (by omega) hh1 (by omega) (by omega) (by omega) w1 v1)
    have r2 := zz_read (pre ++ s) _ ((k + pre.size : Nat) : Int) _ head w1 (read_more (pre ++ s) (k + pre.size) n (k + pre.size + e.size) head (by omega) hh1 (by omega) (by omega) (by omega) w1 v2)
    have hp2 : (pre ++ s).extract (k + pre.size + e.size) (k + pre.size + e.size + n) = s.extract (k + e.size) (k + e.size + n) := by
      have e1 : k + pre.size + e.size = k + e.size + pre.size := by omega
      have e2 : k + e.size + pre.size + n = k + e.size + n + pre.size := by omega
      rw [e1, e2]
      exact piece_after pre s (k + e.size) (k + e.size + n) (by omega)
    rw [hp2, show ((k + pre.size : Nat) : Int) = (k : Int) + pre.size by omega, show (((k + pre.size + e.size : Nat) : Int) + n) = (k : Int) + e.size + n + pre.size by omega] at r2
    rw [show (((k + e.size : Nat) : Int) + n) = (k : Int) + e.size + n by omega] at r1
    obtain ⟨q, hq⟩ : ∃ q, q = s.extract (k + e.size) (k + e.size + n) := ⟨_, rfl⟩
    have hq2 : s.extract (k + e.size) (k + e.size + n) = q := hq.symm
    rw [← hq] at r1 r2
    clear heq' heq2 v1 v2 hsz hp2 hq
    go_wp2_with fail
    refine r1.mono ?_
    rintro e w' ⟨rfl, rfl⟩
    go_wp2_with fail
    refine r2.mono ?_
    rintro e w' ⟨rfl, rfl⟩
    go_wp2
    go_ret
    exact ⟨rfl, HG⟩

end Go.Proofs.Qxb6619230a
