/-
  THE WALK of 'FnPlacesOfKeepsAnsweringTrueFromItsIndex'.
-/
import Derived.Test.Qxb6619218aPlaces
namespace Go.Proofs.Qxb6619218a
open Go.RowKit

/-! ### the bound's test, laid by program -/
set_option maxRecDepth 100000 in
theorem bytes14_none (a : Option Addr) (cap : Nat) (key key2 : ByteArray) (hk : key.size ≤ 9223372036854775807) (hk2 : key2.size ≤ 9223372036854775807) (w : World) :
    Calls Try.prog 14 #[.slice a 0 cap, .string key, .string key2] w (BoolPost w) := by
  go_enter Try.func14, Try.ntmps14
  go_wp2
  refine wp_loop_rounds 1 ?_
  rw [rounds_succ]
  go_wp2
  all_goals
    go_ret
    exact BoolPost.mk'

set_option maxRecDepth 100000 in
theorem bytes14_some (b off len cap : Nat) (ss : List ByteArray) (key key2 : ByteArray) (w : World) (hm : len ≤ 9223372036854775807) (hz : len ≤ ss.length)
    (hc : ∀ j, j < ss.length → w.cell? ⟨b, off + j, none⟩ = some (.string (ss.getD j ByteArray.empty))) :
    Calls Try.prog 14 #[.slice (some ⟨b, off, none⟩) len cap, .string key, .string key2] w (BoolPost w) := by
  go_enter Try.func14, Try.ntmps14
  go_wp2
  · go_ret
    exact BoolPost.mk'
  · go_loop [7, 8] (fun t i => ∃ (k : Nat) (x : Int), k ≤ len ∧ i = .int .i64 k ∧ t = .int .i64 x) (fun _ i => len - (intOf i).toNat)
    case atStart => exact ⟨0, _, Nat.zero_le _, rfl, rfl⟩
    case round =>
      obtain ⟨k, x, hk, rfl, rfl⟩ := hrel
      by_cases hlt : k < len
      · have hcx : w.cell? ⟨b, off + k, none⟩ = some (.string (ss.getD k ByteArray.empty)) := hc k (by omega)
        go_wp2
        · go_ret
          exact BoolPost.mk'
        · go_ret
          exact BoolPost.mk'
        · go_round
          case rel => exact ⟨k + 1, _, by omega, by go_num, rfl⟩
          case measure => simp [intOf]; omega
      · go_wp2
        all_goals
          go_ret
          exact BoolPost.mk'

theorem bytes14_any (a : Option Addr) (len cap : Nat) (ss : List ByteArray) (key key2 : ByteArray) (w : World) (hm : len ≤ 9223372036854775807) (hk : key.size ≤ 9223372036854775807) (hk2 : key2.size ≤ 9223372036854775807) (hlen : ss.length = len) (h : StrsAt w a ss) :
    Calls Try.prog 14 #[.slice a len cap, .string key, .string key2] w (BoolPost w) := by
  rcases h with rfl | ⟨b, off, rfl, _, hc⟩
  · simp at hlen; subst hlen; exact bytes14_none a cap key key2 hk hk2 w
  · exact bytes14_some b off len cap ss key key2 w hm (by omega) hc

set_option maxRecDepth 100000 in
theorem keeps_walk_some (x : Addr) (len cap : Nat) (ss : List ByteArray) (key key2 : ByteArray) (w : World) (hm : len ≤ 9223372036854775807) (hlen : ss.length = len) (h : StrsAt w (some x) ss) (hsz : ∀ s ∈ ss, s.size ≤ maxLen) (hkey : key.size ≤ maxLen) (hkey2 : key2.size ≤ maxLen) :
    Calls Try.prog 4 #[.slice (some x) len cap, .string key, .string key2] w fun e w' => e = .returned (.bool true) ∧ Below w.heap.size w w' := by
  have c1 := bytes14_any (some x) len cap ss key key2 w hm (by unfold maxLen at hkey; exact hkey) (by unfold maxLen at hkey2; exact hkey2) hlen h
  have c2 := over_any (some x) len cap ss 524288 w hm hlen h
  have HZ : Hid (∀ s ∈ ss, s.size ≤ maxLen) := hsz
  have HL : Hid (ss.length = len) := hlen
  have HS : Hid (StrsAt w (some x) ss) := h
  clear hlen hsz h
  go_enter Try.func4, Try.ntmps4
  go_wp2_with fail
  refine c1.mono ?_
  rintro e w' ⟨b1, rfl, rfl⟩
  cases b1
  · go_wp2
    go_ret
    exact ⟨rfl, Below.refl _ _⟩
  by_cases hk : (65536 : Int) < (key.size : Int)
  · go_wp2
    go_ret
    exact ⟨rfl, Below.refl _ _⟩
  by_cases hk2 : (65536 : Int) < (key2.size : Int)
  · go_wp2
    go_ret
    exact ⟨rfl, Below.refl _ _⟩
  go_wp2_with fail
  refine c2.mono ?_
  rintro e w' ⟨b2, rfl, hb2, rfl⟩
  cases b2
  rotate_left
  · go_wp2
    go_ret
    exact ⟨rfl, Below.refl _ _⟩
  have hl : (len : Int) ≤ 524288 := hb2 rfl
  clear hb2 c1 c2
  have c3 := clone_any x len cap ss w' (by omega) HL.out HS.out
  go_wp2_with fail
  refine c3.mono ?_
  rintro e w1 ⟨rfl, hrow1, hb1⟩
  have H1 : Hid (RowOf w1 w'.heap.size ss) := hrow1
  have B1 : Hid (Below w'.heap.size w' w1) := hb1
  clear hrow1 hb1 c3
  have c4 := clone_any ⟨w'.heap.size, 0, none⟩ len len ss w1 (by omega) HL.out (H1.out.part 0)
  go_wp2_with fail
  refine c4.mono ?_
  rintro e w2 ⟨rfl, hrow2, hb2⟩
  have H2 : Hid (RowOf w2 w1.heap.size ss) := hrow2
  have B2 : Hid (Below w1.heap.size w1 w2) := hb2
  clear hrow2 hb2 c4
  have c5 := new_any (some ⟨w1.heap.size, 0, none⟩) len len w2
  go_wp2_with fail
  refine c5.mono ?_
  rintro e w3 ⟨rfl, rfl⟩
  have hR : RSet (w2.alloc (.cells #[.slice none 0 0, .slice (some ⟨w1.heap.size, 0, none⟩) len len, .map none] 47)) w2.heap.size (some ⟨w1.heap.size, 0, none⟩) len len none := RSet.made _ _ _ _
  have B3 : Below w2.heap.size w2 (w2.alloc (.cells #[.slice none 0 0, .slice (some ⟨w1.heap.size, 0, none⟩) len len, .map none] 47)) := (Below.refl _ _).alloc (Nat.le_refl _) _
  have c6 := zz_first w2.heap.size (some ⟨w1.heap.size, 0, none⟩) len len ss key _ hR (by omega) HL.out HZ.out ((H2.out.part 0).below B3) hkey
  clear c5 hR B3
  go_wp2_with fail
  refine c6.mono ?_
  rintro e w4 ⟨v, rfl, hp, hr, hb4⟩
  have s0 : w'.heap.size < w1.heap.size := H1.out.lt
  have s1 : w1.heap.size < w2.heap.size := H2.out.lt
  have R4 : RowOf w4 w'.heap.size ss := ((H1.out.below B2.out s0).below ((Below.refl w2.heap.size w2).alloc (Nat.le_refl _) _) (by omega)).below hb4 (by omega)
  have Q4 : RowOf w4 w1.heap.size ss := (H2.out.below ((Below.refl w2.heap.size w2).alloc (Nat.le_refl _) _) (by omega)).below hb4 (by omega)
  have BB : Hid (Below w'.heap.size w' w4) := ((B1.out.trans (B2.out.mono (by omega))).alloc (by omega) _).trans (hb4.mono (by omega))
  have PP : Hid (PlacesAt w4 v (hits ss key len) ∧ Ready w4 w2.heap.size (some ⟨w1.heap.size, 0, none⟩) len len ss ∧ RowOf w4 w'.heap.size ss ∧ RowOf w4 w1.heap.size ss) := ⟨hp, hr, R4, Q4⟩
  have z4 : w'.heap.size ≤ w4.heap.size := BB.out.size
  clear hp hr hb4 R4 Q4 c6
  have d6 := zz_ready w2.heap.size (some ⟨w1.heap.size, 0, none⟩) len len ss key2 w4 PP.out.2.1 HL.out (PP.out.2.2.2.part 0) hkey2
  go_wp2_with fail
  refine d6.mono ?_
  rintro e w5 ⟨v5, rfl, hp5, hb5⟩
  have B5 : Hid (Below w4.heap.size w4 w5) := hb5
  have P5 : Hid (PlacesAt w5 v5 (hits ss key2 len)) := hp5
  have z5 : w4.heap.size ≤ w5.heap.size := hb5.size
  clear hp5 hb5 d6
  have d7 := zz_ready w2.heap.size (some ⟨w1.heap.size, 0, none⟩) len len ss key w5 (PP.out.2.1.below B5.out) HL.out ((PP.out.2.2.2.part 0).below B5.out) hkey
  go_wp2_with fail
  refine d7.mono ?_
  rintro e w6 ⟨v6, rfl, hp6, hb6⟩
  have B6 : Hid (Below w5.heap.size w5 w6) := hb6
  have P6 : Hid (PlacesAt w6 v6 (hits ss key len)) := hp6
  clear hp6 hb6 d7
  have B46 : Hid (Below w4.heap.size w4 w6) := B5.out.trans (B6.out.mono z5)
  have S6 : StrsAt w6 (some ⟨w'.heap.size, 0, none⟩) ss := (PP.out.2.2.1.part 0).below B46.out
  have a1 := are_any (some ⟨w'.heap.size, 0, none⟩) len len ss key v w6 (by omega) HL.out S6 (PP.out.1.below B46.out)
  have a2 := are_any (some ⟨w'.heap.size, 0, none⟩) len len ss key2 v5 w6 (by omega) HL.out S6 (P5.out.below B6.out)
  have a3 := are_any (some ⟨w'.heap.size, 0, none⟩) len len ss key v6 w6 (by omega) HL.out S6 P6.out
  have BZ : Hid (Below w'.heap.size w' w6) := BB.out.trans (B46.out.mono z4)
  clear S6
  go_wp2_with fail
  refine a1.mono ?_
  rintro e w7 ⟨rfl, rfl⟩
  go_wp2_with fail
  refine a2.mono ?_
  rintro e w8 ⟨rfl, rfl⟩
  go_wp2_with fail
  refine a3.mono ?_
  rintro e w9 ⟨rfl, rfl⟩
  go_wp2
  go_ret
  exact ⟨rfl, BZ⟩

set_option maxRecDepth 100000 in
theorem keeps_walk_none (key key2 : ByteArray) (w : World) (hkey : key.size ≤ maxLen) (hkey2 : key2.size ≤ maxLen) :
    Calls Try.prog 4 #[.slice none 0 0, .string key, .string key2] w fun e w' => e = .returned (.bool true) ∧ Below w.heap.size w w' := by
  have c1 := bytes14_any none 0 0 [] key key2 w (by omega) (by unfold maxLen at hkey; exact hkey) (by unfold maxLen at hkey2; exact hkey2) rfl (Or.inl rfl)
  have c2 := over_any none 0 0 [] 524288 w (by omega) rfl (Or.inl rfl)
  go_enter Try.func4, Try.ntmps4
  go_wp2_with fail
  refine c1.mono ?_
  rintro e w' ⟨b1, rfl, rfl⟩
  cases b1
  · go_wp2
    go_ret
    exact ⟨rfl, Below.refl _ _⟩
  by_cases hk : (65536 : Int) < (key.size : Int)
  · go_wp2
    go_ret
    exact ⟨rfl, Below.refl _ _⟩
  by_cases hk2 : (65536 : Int) < (key2.size : Int)
  · go_wp2
    go_ret
    exact ⟨rfl, Below.refl _ _⟩
  go_wp2_with fail
  refine c2.mono ?_
  rintro e w' ⟨b2, rfl, hb2, rfl⟩
  cases b2
  rotate_left
  · go_wp2
    go_ret
    exact ⟨rfl, Below.refl _ _⟩
  clear hb2 c1 c2
  have c3 := clone_none w'
  go_wp2_with fail
  refine c3.mono ?_
  rintro e w1 ⟨rfl, rfl⟩
  go_wp2_with fail
  refine c3.mono ?_
  rintro e w2 ⟨rfl, rfl⟩
  have c5 := new_any none 0 0 w2
  go_wp2_with fail
  refine c5.mono ?_
  rintro e w3 ⟨rfl, rfl⟩
  have hR : RSet (w2.alloc (.cells #[.slice none 0 0, .slice none 0 0, .map none] 47)) w2.heap.size none 0 0 none := RSet.made _ _ _ _
  have c6 := zz_first w2.heap.size none 0 0 [] key _ hR (by omega) rfl (by simp) (Or.inl rfl) hkey
  clear c3 c5 hR
  go_wp2_with fail
  refine c6.mono ?_
  rintro e w4 ⟨v, rfl, hp, hr, hb4⟩
  have BB : Hid (Below w2.heap.size w2 w4) := ((Below.refl _ _).alloc (Nat.le_refl _) _).trans hb4
  have PP : Hid (PlacesAt w4 v (hits [] key 0) ∧ Ready w4 w2.heap.size none 0 0 []) := ⟨hp, hr⟩
  have z4 : w2.heap.size ≤ w4.heap.size := BB.out.size
  clear hp hr hb4 c6
  have d6 := zz_ready w2.heap.size none 0 0 [] key2 w4 PP.out.2 rfl (Or.inl rfl) hkey2
  go_wp2_with fail
  refine d6.mono ?_
  rintro e w5 ⟨v5, rfl, hp5, hb5⟩
  have B5 : Hid (Below w4.heap.size w4 w5) := hb5
  have P5 : Hid (PlacesAt w5 v5 (hits [] key2 0)) := hp5
  have z5 : w4.heap.size ≤ w5.heap.size := hb5.size
  clear hp5 hb5 d6
  have d7 := zz_ready w2.heap.size none 0 0 [] key w5 (PP.out.2.below B5.out) rfl (Or.inl rfl) hkey
  go_wp2_with fail
  refine d7.mono ?_
  rintro e w6 ⟨v6, rfl, hp6, hb6⟩
  have B6 : Hid (Below w5.heap.size w5 w6) := hb6
  have P6 : Hid (PlacesAt w6 v6 (hits [] key 0)) := hp6
  clear hp6 hb6 d7
  have B46 : Hid (Below w4.heap.size w4 w6) := B5.out.trans (B6.out.mono z5)
  have a1 := are_any none 0 0 [] key v w6 (by omega) rfl (Or.inl rfl) (PP.out.1.below B46.out)
  have a2 := are_any none 0 0 [] key2 v5 w6 (by omega) rfl (Or.inl rfl) (P5.out.below B6.out)
  have a3 := are_any none 0 0 [] key v6 w6 (by omega) rfl (Or.inl rfl) P6.out
  have BZ : Hid (Below w2.heap.size w2 w6) := BB.out.trans (B46.out.mono z4)
  go_wp2_with fail
  refine a1.mono ?_
  rintro e w7 ⟨rfl, rfl⟩
  go_wp2_with fail
  refine a2.mono ?_
  rintro e w8 ⟨rfl, rfl⟩
  go_wp2_with fail
  refine a3.mono ?_
  rintro e w9 ⟨rfl, rfl⟩
  go_wp2
  go_ret
  exact ⟨rfl, BZ⟩

end Go.Proofs.Qxb6619218a
