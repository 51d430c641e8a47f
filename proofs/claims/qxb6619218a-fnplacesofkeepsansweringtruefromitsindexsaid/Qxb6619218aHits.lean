/-
  THE PLAIN LAW of 'placesOf', with no Go in sight: the places of a key in a list of keys.
-/
import Derived.Test.Qxb6619218aLatest
namespace Go.Proofs.Qxb6619218a

/-- The places below k at which the key stands, ascending. -/
def hits (ss : List ByteArray) (key : ByteArray) (k : Nat) : List Nat := (List.range k).filter fun j => (ss.getD j ByteArray.empty).toList == key.toList

theorem hits_zero (ss : List ByteArray) (key : ByteArray) : hits ss key 0 = [] := rfl
theorem hits_hit {ss : List ByteArray} {key : ByteArray} {k : Nat} (h : ((ss[k]?.getD ByteArray.empty).toList == key.toList) = true) : hits ss key (k + 1) = hits ss key k ++ [k] := by
  unfold hits
  rw [List.range_succ, List.filter_append]
  congr 1
  have : ((ss.getD k ByteArray.empty).toList == key.toList) = true := h
  simp only [List.filter_cons, this, List.filter_nil, if_true]
theorem hits_miss {ss : List ByteArray} {key : ByteArray} {k : Nat} (h : ((ss[k]?.getD ByteArray.empty).toList == key.toList) = false) : hits ss key (k + 1) = hits ss key k := by
  unfold hits
  rw [List.range_succ, List.filter_append]
  have : ((ss.getD k ByteArray.empty).toList == key.toList) = false := h
  simp only [List.filter_cons, this, List.filter_nil, Bool.false_eq_true, if_false, List.append_nil]

theorem hits_le (ss : List ByteArray) (key : ByteArray) (k : Nat) : (hits ss key k).length ≤ k := by
  unfold hits
  have := List.length_filter_le (fun j => (ss.getD j ByteArray.empty).toList == key.toList) (List.range k)
  simpa using this

theorem hits_getD_mem {ss : List ByteArray} {key : ByteArray} {k j : Nat} (h : j < (hits ss key k).length) : (hits ss key k).getD j 0 ∈ hits ss key k := by
  simp [List.getD, List.getElem?_eq_getElem h]
theorem hits_lt {ss : List ByteArray} {key : ByteArray} {k j : Nat} (h : j < (hits ss key k).length) : (hits ss key k).getD j 0 < k := by
  have := hits_getD_mem h
  unfold hits at this ⊢
  have := (List.mem_filter.1 this).1
  simpa using this
theorem hits_eq {ss : List ByteArray} {key : ByteArray} {k j : Nat} (h : j < (hits ss key k).length) : (ss.getD ((hits ss key k).getD j 0) ByteArray.empty).toList = key.toList := by
  have := hits_getD_mem h
  have := (List.mem_filter.1 this).2
  simpa using this
theorem hits_rising (ss : List ByteArray) (key : ByteArray) (k : Nat) : (hits ss key k).Pairwise (· < ·) :=
  List.Pairwise.filter _ List.pairwise_lt_range
theorem hits_lt_lt {ss : List ByteArray} {key : ByteArray} {k i j : Nat} (hij : i < j) (h : j < (hits ss key k).length) : (hits ss key k).getD i 0 < (hits ss key k).getD j 0 := by
  have := List.pairwise_iff_getElem.1 (hits_rising ss key k) i j (by omega) h hij
  simpa [List.getD, List.getElem?_eq_getElem h, List.getElem?_eq_getElem (Nat.lt_trans hij h)] using this

end Go.Proofs.Qxb6619218a
