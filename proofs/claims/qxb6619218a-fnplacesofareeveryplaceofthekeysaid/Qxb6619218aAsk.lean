/-
  THE WALK of 'FnPlacesOfAreEveryPlaceOfTheKey'.
-/
import Derived.Test.Qxb6619218aPlaces
namespace Go.Proofs.Qxb6619218a
open Go.RowKit

/-! ### the bound's test, laid by program -/
set_option maxRecDepth 100000 in
theorem bytes8_none (a : Option Addr) (cap : Nat) (key : ByteArray) (hk : key.size ≤ 9223372036854775807) (w : World) :
    Calls Try.prog 8 #[.slice a 0 cap, .string key] w (BoolPost w) := by
  go_enter Try.func8, Try.ntmps8
  go_wp2
  refine wp_loop_rounds 1 ?_
  rw [rounds_succ]
  go_wp2
  all_goals
    go_ret
    exact BoolPost.mk'

set_option maxRecDepth 100000 in
theorem bytes8_some (b off len cap : Nat) (ss : List ByteArray) (key : ByteArray) (w : World) (hm : len ≤ 9223372036854775807) (hz : len ≤ ss.length)
    (hc : ∀ j, j < ss.length → w.cell? ⟨b, off + j, none⟩ = some (.string (ss.getD j ByteArray.empty))) :
    Calls Try.prog 8 #[.slice (some ⟨b, off, none⟩) len cap, .string key] w (BoolPost w) := by
  go_enter Try.func8, Try.ntmps8
  go_wp2
  · go_ret
    exact BoolPost.mk'
  · go_loop [5, 6] (fun t i => ∃ (k : Nat) (x : Int), k ≤ len ∧ i = .int .i64 k ∧ t = .int .i64 x) (fun _ i => len - (intOf i).toNat)
    case atStart => exact ⟨0, _, Nat.zero_le _, rfl, rfl⟩
    case round =>
      obtain ⟨k, x, hk, rfl, rfl⟩ := hrel
      by_cases hlt : k < len
      · have hcx : w.cell? ⟨b, off + k, none⟩ = some (.string (ss.getD k ByteArray.empty)) := hc k (by omega)
        go_wp2
        · go_ret
          exact BoolPost.mk'
        · go_ret
          exact BoolPost.mk'
        · go_round
          case rel => exact ⟨k + 1, _, by omega, by go_num, rfl⟩
          case measure => simp [intOf]; omega
      · go_wp2
        all_goals
          go_ret
          exact BoolPost.mk'

theorem bytes8_any (a : Option Addr) (len cap : Nat) (ss : List ByteArray) (key : ByteArray) (w : World) (hm : len ≤ 9223372036854775807) (hk : key.size ≤ 9223372036854775807) (hlen : ss.length = len) (h : StrsAt w a ss) :
    Calls Try.prog 8 #[.slice a len cap, .string key] w (BoolPost w) := by
  rcases h with rfl | ⟨b, off, rfl, _, hc⟩
  · simp at hlen; subst hlen; exact bytes8_none a cap key hk w
  · exact bytes8_some b off len cap ss key w hm (by omega) hc

set_option maxRecDepth 100000 in
theorem places_walk_some (x : Addr) (len cap : Nat) (ss : List ByteArray) (key : ByteArray) (w : World) (hm : len ≤ 9223372036854775807) (hlen : ss.length = len) (h : StrsAt w (some x) ss) (hsz : ∀ s ∈ ss, s.size ≤ maxLen) (hkey : key.size ≤ maxLen) :
    Calls Try.prog 3 #[.slice (some x) len cap, .string key] w fun e w' => e = .returned (.bool true) ∧ Below w.heap.size w w' := by
  have c1 := bytes8_any (some x) len cap ss key w hm (by unfold maxLen at hkey; exact hkey) hlen h
  have c2 := over_any (some x) len cap ss 524288 w hm hlen h
  have HZ : Hid (∀ s ∈ ss, s.size ≤ maxLen) := hsz
  have HL : Hid (ss.length = len) := hlen
  have HS : Hid (StrsAt w (some x) ss) := h
  clear hlen hsz h
  go_enter Try.func3, Try.ntmps3
  go_wp2_with fail
  refine c1.mono ?_
  rintro e w' ⟨b1, rfl, rfl⟩
  cases b1
  · go_wp2
    go_ret
    exact ⟨rfl, Below.refl _ _⟩
  by_cases hk : (65536 : Int) < (key.size : Int)
  · go_wp2
    go_ret
    exact ⟨rfl, Below.refl _ _⟩
  go_wp2_with fail
  refine c2.mono ?_
  rintro e w' ⟨b2, rfl, hb2, rfl⟩
  cases b2
  rotate_left
  · go_wp2
    go_ret
    exact ⟨rfl, Below.refl _ _⟩
  have hl : (len : Int) ≤ 524288 := hb2 rfl
  clear hb2 c1 c2
  have c3 := clone_any x len cap ss w' (by omega) HL.out HS.out
  go_wp2_with fail
  refine c3.mono ?_
  rintro e w1 ⟨rfl, hrow1, hb1⟩
  have H1 : Hid (RowOf w1 w'.heap.size ss) := hrow1
  have B1 : Hid (Below w'.heap.size w' w1) := hb1
  clear hrow1 hb1 c3
  have c4 := clone_any ⟨w'.heap.size, 0, none⟩ len len ss w1 (by omega) HL.out (H1.out.part 0)
  go_wp2_with fail
  refine c4.mono ?_
  rintro e w2 ⟨rfl, hrow2, hb2⟩
  have H2 : Hid (RowOf w2 w1.heap.size ss) := hrow2
  have B2 : Hid (Below w1.heap.size w1 w2) := hb2
  clear hrow2 hb2 c4
  have c5 := new_any (some ⟨w1.heap.size, 0, none⟩) len len w2
  go_wp2_with fail
  refine c5.mono ?_
  rintro e w3 ⟨rfl, rfl⟩
  have hR : RSet (w2.alloc (.cells #[.slice none 0 0, .slice (some ⟨w1.heap.size, 0, none⟩) len len, .map none] 47)) w2.heap.size (some ⟨w1.heap.size, 0, none⟩) len len none := RSet.made _ _ _ _
  have B3 : Below w2.heap.size w2 (w2.alloc (.cells #[.slice none 0 0, .slice (some ⟨w1.heap.size, 0, none⟩) len len, .map none] 47)) := (Below.refl _ _).alloc (Nat.le_refl _) _
  have c6 := zz_first w2.heap.size (some ⟨w1.heap.size, 0, none⟩) len len ss key _ hR (by omega) HL.out HZ.out ((H2.out.part 0).below B3) hkey
  clear c5 hR B3
  go_wp2_with fail
  refine c6.mono ?_
  rintro e w4 ⟨v, rfl, hp, hr, hb4⟩
  have s0 : w'.heap.size < w1.heap.size := H1.out.lt
  have s1 : w1.heap.size < w2.heap.size := H2.out.lt
  have R4 : RowOf w4 w'.heap.size ss := ((H1.out.below B2.out s0).below ((Below.refl w2.heap.size w2).alloc (Nat.le_refl _) _) (by omega)).below hb4 (by omega)
  have c7 := are_any (some ⟨w'.heap.size, 0, none⟩) len len ss key v w4 (by omega) HL.out (R4.part 0) hp
  have BB : Hid (Below w'.heap.size w' w4) := ((B1.out.trans (B2.out.mono (by omega))).alloc (by omega) _).trans (hb4.mono (by omega))
  clear hp hr hb4 R4 c6
  go_wp2_with fail
  refine c7.mono ?_
  rintro e w5 ⟨rfl, rfl⟩
  go_wp2
  go_ret
  exact ⟨rfl, BB⟩

set_option maxRecDepth 100000 in
theorem places_walk_none (key : ByteArray) (w : World) (hkey : key.size ≤ maxLen) :
    Calls Try.prog 3 #[.slice none 0 0, .string key] w fun e w' => e = .returned (.bool true) ∧ Below w.heap.size w w' := by
  have c1 := bytes8_any none 0 0 [] key w (by omega) (by unfold maxLen at hkey; exact hkey) rfl (Or.inl rfl)
  have c2 := over_any none 0 0 [] 524288 w (by omega) rfl (Or.inl rfl)
  go_enter Try.func3, Try.ntmps3
  go_wp2_with fail
  refine c1.mono ?_
  rintro e w' ⟨b1, rfl, rfl⟩
  cases b1
  · go_wp2
    go_ret
    exact ⟨rfl, Below.refl _ _⟩
  by_cases hk : (65536 : Int) < (key.size : Int)
  · go_wp2
    go_ret
    exact ⟨rfl, Below.refl _ _⟩
  go_wp2_with fail
  refine c2.mono ?_
  rintro e w' ⟨b2, rfl, hb2, rfl⟩
  cases b2
  rotate_left
  · go_wp2
    go_ret
    exact ⟨rfl, Below.refl _ _⟩
  clear hb2 c1 c2
  have c3 := clone_none w'
  go_wp2_with fail
  refine c3.mono ?_
  rintro e w1 ⟨rfl, rfl⟩
  go_wp2_with fail
  refine c3.mono ?_
  rintro e w2 ⟨rfl, rfl⟩
  have c5 := new_any none 0 0 w2
  go_wp2_with fail
  refine c5.mono ?_
  rintro e w3 ⟨rfl, rfl⟩
  have hR : RSet (w2.alloc (.cells #[.slice none 0 0, .slice none 0 0, .map none] 47)) w2.heap.size none 0 0 none := RSet.made _ _ _ _
  have c6 := zz_first w2.heap.size none 0 0 [] key _ hR (by omega) rfl (by simp) (Or.inl rfl) hkey
  clear c3 c5 hR
  go_wp2_with fail
  refine c6.mono ?_
  rintro e w4 ⟨v, rfl, hp, hr, hb4⟩
  have c7 := are_any none 0 0 [] key v w4 (by omega) rfl (Or.inl rfl) hp
  have BB : Hid (Below w2.heap.size w2 w4) := ((Below.refl _ _).alloc (Nat.le_refl _) _).trans hb4
  clear hp hr hb4 c6
  go_wp2_with fail
  refine c7.mono ?_
  rintro e w5 ⟨rfl, rfl⟩
  go_wp2
  go_ret
  exact ⟨rfl, BB⟩

end Go.Proofs.Qxb6619218a
