/-
  THE WALKS of 'FnPlacesOfAreEveryPlaceOfTheKey' and 'FnPlacesOfKeepsAnsweringTrueFromItsIndex'.
-/
import Derived.Test.Qxb6619218aIndex
namespace Go.Proofs.Qxb6619218a
open Go.RowKit

theorem RSet.put {w : World} {R : Nat} {a : Option Addr} {len cap : Nat} {m : Option Nat} (h : RSet w R a len cap m) (m' : Option Nat) : RSet (w.setCell ⟨R, 2, none⟩ (.map m')) R a len cap m' := by
  unfold RSet at *
  rw [block_setCell h]
  rfl

theorem RSet.no_int {w : World} {R : Nat} {a : Option Addr} {len cap : Nat} {m : Option Nat} (h : RSet w R a len cap m) (j : Nat) (x : Int) : w.cell? ⟨R, j, none⟩ ≠ some (.int .i64 x) := by
  unfold RSet at h
  match j with
  | 0 => simp [World.cell?, h]
  | 1 => simp [World.cell?, h]
  | 2 => simp [World.cell?, h]
  | n + 3 => simp [World.cell?, h]

theorem cell_setCell_far (w : World) (p q : Addr) (v : Value) (h : q.block ≠ p.block) : (w.setCell p v).cell? q = w.cell? q :=
  World.cell?_of_block (Below.heap_setCell w p v q.block h)

theorem PlacesAt.put {w : World} {R : Nat} {a : Option Addr} {len cap : Nat} {m : Option Nat} (h : RSet w R a len cap m) {v : Value} {ps : List Nat} (hp : PlacesAt w v ps) (x : Value) : PlacesAt (w.setCell ⟨R, 2, none⟩ x) v ps := by
  rcases hp with hp | ⟨hne, g, o, gc, rfl, hc⟩
  · exact Or.inl hp
  · refine Or.inr ⟨hne, g, o, gc, rfl, fun j hj => ?_⟩
    have := hc j hj
    rw [cell_setCell_far _ _ _ _ (by
      intro e
      have e' : g = R := e
      subst e'
      exact h.no_int _ _ this)]
    exact this

theorem IndexAt.put {w : World} {R M : Nat} {a : Option Addr} {len cap : Nat} {m : Option Nat} (h : RSet w R a len cap m) {ss : List ByteArray} (hI : IndexAt w M ss len) (hMR : M ≠ R) (x : Value) : IndexAt (w.setCell ⟨R, 2, none⟩ x) M ss len := by
  obtain ⟨n, f, hm, hp⟩ := hI
  exact ⟨n, f, hm.setCell _ _ hMR, fun s => (hp s).put h x⟩

def FirstPost (w : World) (R : Nat) (a : Option Addr) (len cap : Nat) (ss : List ByteArray) (key : ByteArray) (e : Ending) (w' : World) : Prop :=
  ∃ v M, e = .returned v ∧ PlacesAt w' v (hits ss key len) ∧ RSet w' R a len cap (some M) ∧ IndexAt w' M ss len ∧ Below R w w'

/-- The first look-up in a set of more than eight keys: the index is built. -/
theorem many_first (R : Nat) (a : Option Addr) (len cap : Nat) (ss : List ByteArray) (key : ByteArray) (w : World) (hR : Hid (RSet w R a len cap none)) (hl : 8 < (len : Int)) (hm : len ≤ 1048576) (HL : Hid (ss.length = len)) (hsz : Hid (∀ s ∈ ss, s.size ≤ maxLen)) (hS : Hid (StrsAt w a ss)) (hkey : key.size ≤ maxLen) :
    Calls Try.prog 23 #[.pointer (some ⟨R, 0, none⟩), .string key] w (FirstPost w R a len cap ss key) := by
  have h1 := hR.out.keys
  have h2 := hR.out.at_
  have hRl := hR.out.lt
  have hix := index_any a len cap ss w hm (by omega) HL.out hsz.out hS.out
  have hnm := fun (w : World) => run_eql_map_nil (P := Try.prog) w 45 9 28 none Try.underlying45
  go_enter Try.func23, Try.ntmps23
  go_wp2_with fail
  refine hix.mono ?_
  rintro e w1 ⟨rfl, hI, hb⟩
  have hR1 : RSet w1 R a len cap none := hR.out.below hb hRl
  have f2 := hR1.frozen 2
  have g2 := hR1.at_
  have hI2 := hI.put hR1 (by omega : w.heap.size ≠ R) (.map (some w.heap.size))
  have hI3 := hI2
  obtain ⟨n, h, hmap, hp⟩ := hI2
  have hlk := hmap.look hkey
  have HP : Hid (PlacesAt (w1.setCell ⟨R, 2, none⟩ (.map (some w.heap.size))) (h key) (hits ss key len)) := hp key
  have HR2 : Hid (RSet (w1.setCell ⟨R, 2, none⟩ (.map (some w.heap.size))) R a len cap (some w.heap.size)) := hR1.put _
  have h3 := HR2.out.at_
  have HI : Hid (IndexAt (w1.setCell ⟨R, 2, none⟩ (.map (some w.heap.size))) w.heap.size ss len) := hI3
  have HB : Hid (Below R w (w1.setCell ⟨R, 2, none⟩ (.map (some w.heap.size)))) := Below.setCell (p := ⟨R, 2, none⟩) (hb.mono (B' := R) (by omega)) (Nat.le_refl R) (.map (some w.heap.size))
  clear hmap hp hI3 hI hb h1 h2
  go_wp2
  go_ret
  exact ⟨_, _, rfl, HP, HR2, HI, HB⟩

/-- The set can be asked without a write into what is there. -/
def Ready (w : World) (R : Nat) (a : Option Addr) (len cap : Nat) (ss : List ByteArray) : Prop :=
  ∃ m, RSet w R a len cap m ∧ (len ≤ 8 ∨ (8 < len ∧ ∃ M, m = some M ∧ IndexAt w M ss len))

theorem Ready.below {w w' : World} {R : Nat} {a : Option Addr} {len cap : Nat} {ss : List ByteArray} (h : Ready w R a len cap ss) (hb : Below w.heap.size w w') : Ready w' R a len cap ss := by
  obtain ⟨m, hR, hc⟩ := h
  refine ⟨m, hR.below hb hR.lt, ?_⟩
  rcases hc with hc | ⟨hl, M, rfl, hI⟩
  · exact Or.inl hc
  · exact Or.inr ⟨hl, M, rfl, hI.below hb⟩

theorem ready_places (R : Nat) (a : Option Addr) (len cap : Nat) (ss : List ByteArray) (key : ByteArray) (w : World) (h : Ready w R a len cap ss) (hlen : ss.length = len) (hS : StrsAt w a ss) (hkey : key.size ≤ maxLen) :
    Calls Try.prog 23 #[.pointer (some ⟨R, 0, none⟩), .string key] w (PlacesPost w (hits ss key len)) := by
  obtain ⟨m, hR, hc⟩ := h
  rcases hc with hc | ⟨hl, M, rfl, hI⟩
  · exact few_any R a len cap ss m key w hR hc hlen hS
  · exact many_ready R a len cap M ss key w hR (by omega) hI hkey

def AskPost (w : World) (R : Nat) (a : Option Addr) (len cap : Nat) (ss : List ByteArray) (key : ByteArray) (e : Ending) (w' : World) : Prop :=
  ∃ v, e = .returned v ∧ PlacesAt w' v (hits ss key len) ∧ Ready w' R a len cap ss ∧ Below R w w'

theorem first_places (R : Nat) (a : Option Addr) (len cap : Nat) (ss : List ByteArray) (key : ByteArray) (w : World) (hR : RSet w R a len cap none) (hm : len ≤ 1048576) (hlen : ss.length = len) (hsz : ∀ s ∈ ss, s.size ≤ maxLen) (hS : StrsAt w a ss) (hkey : key.size ≤ maxLen) :
    Calls Try.prog 23 #[.pointer (some ⟨R, 0, none⟩), .string key] w (AskPost w R a len cap ss key) := by
  by_cases hl : len ≤ 8
  · refine (few_any R a len cap ss none key w hR hl hlen hS).mono ?_
    rintro e w' ⟨v, rfl, hp, hb⟩
    exact ⟨v, rfl, hp, ⟨none, hR.below hb hR.lt, Or.inl hl⟩, hb.mono (Nat.le_of_lt hR.lt)⟩
  · refine (many_first R a len cap ss key w hR (by omega) hm hlen hsz hS hkey).mono ?_
    rintro e w' ⟨v, M, rfl, hp, hR', hI, hb⟩
    exact ⟨v, rfl, hp, ⟨some M, hR', Or.inr ⟨by omega, M, rfl, hI⟩⟩, hb⟩

theorem zz_first (R : Nat) (a : Option Addr) (len cap : Nat) (ss : List ByteArray) (key : ByteArray) (w : World) (hR : RSet w R a len cap none) (hm : len ≤ 1048576) (hlen : ss.length = len) (hsz : ∀ s ∈ ss, s.size ≤ maxLen) (hS : StrsAt w a ss) (hkey : key.size ≤ maxLen) :
    Calls Try.prog 12 #[.pointer (some ⟨R, 0, none⟩), .string key] w (AskPost w R a len cap ss key) := by
  have H := first_places R a len cap ss key w hR hm hlen hsz hS hkey
  clear hR hlen hsz hS
  go_enter Try.func12, Try.ntmps12
  go_wp2_with fail
  refine H.mono ?_
  rintro e w' ⟨v, rfl, hp, hr, hb⟩
  have HH : Hid (PlacesAt w' v (hits ss key len) ∧ Ready w' R a len cap ss ∧ Below R w w') := ⟨hp, hr, hb⟩
  clear hp hr hb
  go_wp2
  go_ret
  exact ⟨_, rfl, HH.out⟩

theorem zz_ready (R : Nat) (a : Option Addr) (len cap : Nat) (ss : List ByteArray) (key : ByteArray) (w : World) (h : Ready w R a len cap ss) (hlen : ss.length = len) (hS : StrsAt w a ss) (hkey : key.size ≤ maxLen) :
    Calls Try.prog 12 #[.pointer (some ⟨R, 0, none⟩), .string key] w (PlacesPost w (hits ss key len)) := by
  have H := ready_places R a len cap ss key w h hlen hS hkey
  clear h hlen hS
  go_enter Try.func12, Try.ntmps12
  go_wp2_with fail
  refine H.mono ?_
  rintro e w' ⟨v, rfl, hp, hb⟩
  have HH : Hid (PlacesAt w' v (hits ss key len) ∧ Below w.heap.size w w') := ⟨hp, hb⟩
  clear hp hb
  go_wp2
  go_ret
  exact ⟨_, rfl, HH.out⟩

end Go.Proofs.Qxb6619218a
