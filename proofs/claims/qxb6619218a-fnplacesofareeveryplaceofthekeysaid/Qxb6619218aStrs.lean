/-
  THE WALKS that both laws on 'latestOf' share: a slice of strings that lies anywhere; the bounds' tests; 'latestOf' itself.
-/
import Derived.Test.Qxb6619218aProg
import Derived.Test.Qxb6619218aLatest
import Derived.WalkKit
import Derived.WalkSpells
import Derived.WalkLawsBesides
import Derived.Lib.Strings
namespace Go.Proofs.Qxb6619218a
open Go.RowKit

/-- A slice's address leads to the strings ss (nothing is said of the address where there are none). -/
def StrsAt (w : World) (a : Option Addr) (ss : List ByteArray) : Prop :=
  ss = [] ∨ ∃ b off, a = some ⟨b, off, none⟩ ∧ b < w.heap.size ∧ ∀ j, j < ss.length → w.cell? ⟨b, off + j, none⟩ = some (.string (ss.getD j ByteArray.empty))

/-- One bool, the world as it was; where it is false the length is within the limit. -/
def OverPost (len : Nat) (lim : Int) (w : World) (e : Ending) (w' : World) : Prop := ∃ b, e = .returned (.bool b) ∧ (b = false → (len : Int) ≤ lim) ∧ w' = w
/-- One bool, the world as it was. -/
def BoolPost (w : World) (e : Ending) (w' : World) : Prop := ∃ b, e = .returned (.bool b) ∧ w' = w

theorem OverPost.yes {len : Nat} {lim : Int} {w : World} : OverPost len lim w (.returned (.bool true)) w := ⟨true, rfl, by simp, rfl⟩
theorem OverPost.no {len : Nat} {lim : Int} {w : World} (h : (len : Int) ≤ lim) : OverPost len lim w (.returned (.bool false)) w := ⟨false, rfl, fun _ => h, rfl⟩
theorem BoolPost.mk' {b : Bool} {w : World} : BoolPost w (.returned (.bool b)) w := ⟨b, rfl, rfl⟩

set_option maxRecDepth 100000 in
theorem over_none (a : Option Addr) (cap : Nat) (lim : Int) (w : World) :
    Calls Try.prog 9 #[.slice a 0 cap, .int .i64 lim] w (OverPost 0 lim w) := by
  go_enter Try.func9, Try.ntmps9
  go_wp2
  · go_ret
    exact OverPost.yes
  · refine wp_loop_rounds 1 ?_
    rw [rounds_succ]
    go_wp2
    go_ret
    exact OverPost.no (by omega)

set_option maxRecDepth 100000 in
theorem over_some (b off len cap : Nat) (ss : List ByteArray) (lim : Int) (w : World) (hm : len ≤ 9223372036854775807) (hz : len ≤ ss.length)
    (hc : ∀ j, j < ss.length → w.cell? ⟨b, off + j, none⟩ = some (.string (ss.getD j ByteArray.empty))) :
    Calls Try.prog 9 #[.slice (some ⟨b, off, none⟩) len cap, .int .i64 lim] w (OverPost len lim w) := by
  go_enter Try.func9, Try.ntmps9
  go_wp2
  · go_ret
    exact OverPost.yes
  · go_loop [5, 6] (fun t i => ∃ (k : Nat) (x : Int), k ≤ len ∧ i = .int .i64 k ∧ t = .int .i64 x) (fun _ i => len - (intOf i).toNat)
    case atStart => exact ⟨0, 0, Nat.zero_le _, rfl, rfl⟩
    case round =>
      obtain ⟨k, x, hk, rfl, rfl⟩ := hrel
      have hcx : k < len → w.cell? ⟨b, off + k, none⟩ = some (.string (ss.getD k ByteArray.empty)) := fun _ => hc k (by omega)
      go_wp2
      · go_ret
        exact OverPost.yes
      · go_ret
        exact OverPost.yes
      · go_round
        case rel => exact ⟨k + 1, _, by omega, by go_num, rfl⟩
        case measure => simp [intOf]; omega
      · go_ret
        exact OverPost.no (by assumption)

theorem over_any (a : Option Addr) (len cap : Nat) (ss : List ByteArray) (lim : Int) (w : World) (hm : len ≤ 9223372036854775807) (hlen : ss.length = len) (h : StrsAt w a ss) :
    Calls Try.prog 9 #[.slice a len cap, .int .i64 lim] w (OverPost len lim w) := by
  rcases h with rfl | ⟨b, off, rfl, _, hc⟩
  · simp at hlen; subst hlen; exact over_none a cap lim w
  · exact over_some b off len cap ss lim w hm (by omega) hc

/-! ### the bound's test, laid by program -/
set_option maxRecDepth 100000 in
theorem bytes18_none (a : Option Addr) (cap : Nat) (i : Int) (w : World) :
    Calls Try.prog 18 #[.slice a 0 cap, .int .i64 i] w (BoolPost w) := by
  go_enter Try.func18, Try.ntmps18
  go_wp2
  refine wp_loop_rounds 1 ?_
  rw [rounds_succ]
  go_wp2
  go_ret
  exact BoolPost.mk'

set_option maxRecDepth 100000 in
theorem bytes18_some (b off len cap : Nat) (ss : List ByteArray) (i : Int) (w : World) (hm : len ≤ 9223372036854775807) (hz : len ≤ ss.length)
    (hc : ∀ j, j < ss.length → w.cell? ⟨b, off + j, none⟩ = some (.string (ss.getD j ByteArray.empty))) :
    Calls Try.prog 18 #[.slice (some ⟨b, off, none⟩) len cap, .int .i64 i] w (BoolPost w) := by
  go_enter Try.func18, Try.ntmps18
  go_wp2
  · go_ret
    exact BoolPost.mk'
  · go_loop [5, 6] (fun t i => ∃ (k : Nat) (x : Int), k ≤ len ∧ i = .int .i64 k ∧ t = .int .i64 x) (fun _ i => len - (intOf i).toNat)
    case atStart => exact ⟨0, _, Nat.zero_le _, rfl, rfl⟩
    case round =>
      obtain ⟨k, x, hk, rfl, rfl⟩ := hrel
      have hcx : k < len → w.cell? ⟨b, off + k, none⟩ = some (.string (ss.getD k ByteArray.empty)) := fun _ => hc k (by omega)
      go_wp2
      · go_ret
        exact BoolPost.mk'
      · go_ret
        exact BoolPost.mk'
      · go_round
        case rel => exact ⟨k + 1, _, by omega, by go_num, rfl⟩
        case measure => simp [intOf]; omega
      · go_ret
        exact BoolPost.mk'

theorem bytes18_any (a : Option Addr) (len cap : Nat) (ss : List ByteArray) (i : Int) (w : World) (hm : len ≤ 9223372036854775807) (hlen : ss.length = len) (h : StrsAt w a ss) :
    Calls Try.prog 18 #[.slice a len cap, .int .i64 i] w (BoolPost w) := by
  rcases h with rfl | ⟨b, off, rfl, _, hc⟩
  · simp at hlen; subst hlen; exact bytes18_none a cap i w
  · exact bytes18_some b off len cap ss i w hm (by omega) hc

/-! ### latestOf -/
theorem run_max_strs {P : Program} (w : World) (ts : Array TypeId) (t : TypeId) (x y : ByteArray) : (Builtin.max_ ts t #[.string x, .string y]).run P w = .ok (.string (maxS x y)) w := by
  have e : ∀ s : ByteArray, s.toList = s.data.toList := fun s => Lib.toList_data s
  by_cases h : x.data.toList < y.data.toList <;> simp [Builtin.max_, Builtin.max2, Op.stringOp, asBool, maxS, less_eq, e, h]

def StrPost (s : ByteArray) (w : World) (e : Ending) (w' : World) : Prop := e = .returned (.string s) ∧ w' = w

theorem latest_pos {L : List ByteArray} (h : (!(st L).toList.isEmpty) = true) : latest L = st L := by
  unfold latest; rw [if_neg]; rw [← Lib.toList_data]; simpa using h
theorem latest_neg {L : List ByteArray} (h : (!(st L).toList.isEmpty) = false) : latest L = mx L := by
  unfold latest; rw [if_pos]; rw [← Lib.toList_data]; simpa using h

set_option maxRecDepth 100000 in
theorem latest_none (a : Option Addr) (cap : Nat) (w : World) :
    Calls Try.prog 24 #[.slice a 0 cap] w (StrPost ByteArray.empty w) := by
  have hmx := @run_max_strs Try.prog
  go_enter Try.func24, Try.ntmps24
  go_wp2
  refine wp_loop_rounds 1 ?_
  rw [rounds_succ]
  go_wp2
  go_ret
  exact ⟨rfl, rfl⟩

theorem take_snoc {L : List ByteArray} {k : Nat} (h : k < L.length) : L.take (k + 1) = L.take k ++ [L.getD k ByteArray.empty] := by
  rw [List.take_succ_eq_append_getElem h]; simp [List.getD, List.getElem?_eq_getElem h]

theorem st_hit {ss L : List ByteArray} {k : Nat} (h : (((ss[k]?.getD ByteArray.empty).size : Int) == 10) = true) : st (L ++ [ss.getD k ByteArray.empty]) = maxS (st L) (ss[k]?.getD ByteArray.empty) := by
  rw [st_snoc, if_pos]
  · rfl
  · show (ss[k]?.getD ByteArray.empty).size = 10
    simp only [beq_iff_eq] at h; omega
theorem st_miss {ss L : List ByteArray} {k : Nat} (h : (((ss[k]?.getD ByteArray.empty).size : Int) == 10) = false) : st (L ++ [ss.getD k ByteArray.empty]) = st L := by
  rw [st_snoc, if_neg]
  show ¬ (ss[k]?.getD ByteArray.empty).size = 10
  intro e; rw [e] at h; simp at h

set_option maxRecDepth 100000 in
theorem latest_some (b off len cap : Nat) (ss : List ByteArray) (w : World) (hm : len ≤ 9223372036854775807) (hz : len ≤ ss.length)
    (hc : ∀ j, j < ss.length → w.cell? ⟨b, off + j, none⟩ = some (.string (ss.getD j ByteArray.empty))) :
    Calls Try.prog 24 #[.slice (some ⟨b, off, none⟩) len cap] w (StrPost (latest (ss.take len)) w) := by
  have hmx := @run_max_strs Try.prog
  go_enter Try.func24, Try.ntmps24
  go_wp2
  go_loop [3, 4, 9] (fun l s i => ∃ (k : Nat), k ≤ len ∧ i = .int .i64 k ∧ l = .string (mx (ss.take k)) ∧ s = .string (st (ss.take k))) (fun _ _ i => len - (intOf i).toNat)
  case atStart => exact ⟨0, Nat.zero_le _, rfl, rfl, rfl⟩
  case round =>
    obtain ⟨k, hk, rfl, rfl, rfl⟩ := hrel
    have hcx : k < len → w.cell? ⟨b, off + k, none⟩ = some (.string (ss.getD k ByteArray.empty)) := fun _ => hc k (by omega)
    go_wp2
    · have hlt : k < len := by assumption
      have h10 : ((ss[k]?.getD ByteArray.empty).size : Int) == 10 := by assumption
      have e := take_snoc (L := ss) (k := k) (by omega)
      go_round
      case rel =>
        refine ⟨k + 1, by omega, by go_num, ?_, ?_⟩
        · rw [e, mx_snoc]; rfl
        · rw [e, st_hit h10]
      case measure => simp [intOf]; omega
    · have hlt : k < len := by assumption
      have h10 : (((ss[k]?.getD ByteArray.empty).size : Int) == 10) = false := by assumption
      have e := take_snoc (L := ss) (k := k) (by omega)
      go_round
      case rel =>
        refine ⟨k + 1, by omega, by go_num, ?_, ?_⟩
        · rw [e, mx_snoc]; rfl
        · rw [e, st_miss h10]
      case measure => simp [intOf]; omega
    · obtain rfl : k = len := by omega
      go_ret
      exact ⟨by rw [latest_pos (by assumption)]; rfl, rfl⟩
    · obtain rfl : k = len := by omega
      go_ret
      exact ⟨by rw [latest_neg (by assumption)]; rfl, rfl⟩

theorem latestOf_any (a : Option Addr) (len cap : Nat) (ss : List ByteArray) (w : World) (hm : len ≤ 9223372036854775807) (hlen : ss.length = len) (h : StrsAt w a ss) :
    Calls Try.prog 24 #[.slice a len cap] w (StrPost (latest ss) w) := by
  rcases h with rfl | ⟨b, off, rfl, _, hc⟩
  · simp at hlen; subst hlen; exact latest_none a cap w
  · have := latest_some b off len cap ss w hm (by omega) hc
    rwa [List.take_of_length_le (by omega)] at this

theorem zzlatest_any (a : Option Addr) (len cap : Nat) (ss : List ByteArray) (w : World) (hm : len ≤ 9223372036854775807) (hlen : ss.length = len) (h : StrsAt w a ss) :
    Calls Try.prog 16 #[.slice a len cap] w (StrPost (latest ss) w) := by
  have H := latestOf_any a len cap ss w hm hlen h
  clear hlen
  go_enter Try.func16, Try.ntmps16
  go_wp2_with (go_at_call 24; refine H.mono ?_; rintro e w' ⟨rfl, rfl⟩)
  go_ret
  exact ⟨rfl, rfl⟩

end Go.Proofs.Qxb6619218a
