/-
  A MAP FROM STRINGS TO SLICE HEADERS, told by a function: 'MapIs w b n h': block b is a map of at most n entries whose element at each key s is the value h s (the nil slice where the key is absent). What the headers lead to in memory is told elsewhere.
-/
import Derived.Test.Qxb6619218aFew
import Derived.Maps.OwnRows
import Derived.Maps.Views
import Derived.StringKeys
namespace Go.Proofs.Qxb6619218a
open Go.RowKit Go.Maps Go.WideMaps

theorem law9 : Keyed Try.prog 9 := string_keyed Try.underlying9
theorem zero28 (w : World) : (zeroValue 28).run Try.prog w = .ok (.slice none 0 0) w := by kernel_rfl

/-- How an element reads: as the very value. -/
def tokR (v : Value) : Option (DataW Value × List MemPlace) := some (.held v, [])

def MapIs (w : World) (b n : Nat) (h : ByteArray → Value) : Prop :=
  ∃ D : DataW Value, w.ownsMap Try.prog 9 tokR b n D ∧ ∀ s : ByteArray, s.size ≤ maxLen → D.atKey (.string s.data.toList) (.held (.slice none 0 0)) = .held (h s)

def upd (h : ByteArray → Value) (s : ByteArray) (v : Value) (s' : ByteArray) : Value := if s'.data.toList = s.data.toList then v else h s'

theorem upd_same (h : ByteArray → Value) (s : ByteArray) (v : Value) : upd h s v s = v := by simp [upd]
theorem upd_other (h : ByteArray → Value) {s s' : ByteArray} (v : Value) (hne : s' ≠ s) : upd h s v s' = h s' := by
  unfold upd
  rw [if_neg]
  intro e; exact hne (ba_ext e)

theorem MapIs.made (w : World) : MapIs (w.alloc (.map #[] 0)) w.heap.size 0 (fun _ => .slice none 0 0) :=
  ⟨_, World.ownsMap_made _ _ _ _, fun _ _ => rfl⟩

theorem MapIs.lt {w : World} {b n : Nat} {h : ByteArray → Value} (hm : MapIs w b n h) : b < w.heap.size := by
  obtain ⟨D, hown, _⟩ := hm
  exact hown.lt

theorem MapIs.kept {w w' : World} {b n : Nat} {h : ByteArray → Value} {row : Option Nat} (hm : MapIs w b n h) (hg : w.grownBy w' row) (hne : some b ≠ row) : MapIs w' b n h := by
  obtain ⟨D, hown, hat⟩ := hm
  exact ⟨D, hown.kept hg hne, hat⟩

theorem MapIs.below {w w' : World} {B b n : Nat} {h : ByteArray → Value} (hm : MapIs w b n h) (hb : Below B w w') (hlt : b < B) : MapIs w' b n h := by
  obtain ⟨D, ⟨es, clock, hh, F, hs, hD⟩, hat⟩ := hm
  exact ⟨D, ⟨es, clock, (hb.block b hlt).trans hh, F, hs, hD⟩, hat⟩

theorem MapIs.setCell {w : World} {b n : Nat} {h : ByteArray → Value} (hm : MapIs w b n h) (a : Addr) (v : Value) (hne : b ≠ a.block) : MapIs (w.setCell a v) b n h := by
  obtain ⟨D, ⟨es, clock, hh, F, hs, hD⟩, hat⟩ := hm
  exact ⟨D, ⟨es, clock, (Below.heap_setCell w a v b hne).trans hh, F, hs, hD⟩, hat⟩

theorem MapIs.look {w : World} {b n : Nat} {h : ByteArray → Value} (hm : MapIs w b n h) {s : ByteArray} (hs : s.size ≤ maxLen) :
    (Instr.lookup 45 (.map (some b)) (.string s) false).run Try.prog w = .ok (h s) w := by
  obtain ⟨D, hown, hat⟩ := hm
  obtain ⟨v, ps, hrun, hv⟩ := hown.lookup law9 Try.underlying45 (zero28 w) (zd := .held (.slice none 0 0)) (zp := []) rfl (keyOf_string_mk Try.underlying9 hs)
  rw [hrun]
  simp only [tokR, Option.some.injEq, Prod.mk.injEq] at hv
  rw [hat s hs] at hv
  have := hv.1
  simp only [DataW.held.injEq] at this
  rw [this]

theorem MapIs.store {w : World} {b n : Nat} {h : ByteArray → Value} (hm : MapIs w b n h) (hn : n < maxLen) {s : ByteArray} (hs : s.size ≤ maxLen) (v : Value) :
    ∃ w', (Instr.mapUpdate 45 (.map (some b)) (.string s) v).run Try.prog w = .ok () w' ∧ MapIs w' b (n + 1) (upd h s v) ∧ w.grownBy w' (some b) := by
  obtain ⟨D, hown, hat⟩ := hm
  have hD : IsMap D := by obtain ⟨es, clock, _, _, _, hD⟩ := hown; exact ⟨_, hD⟩
  obtain ⟨w', hrun, hown', hg⟩ := hown.update law9 Try.underlying45 hn (keyOf_string_mk Try.underlying9 hs) (d := .held v) (ps := []) rfl
  refine ⟨w', hrun, ⟨_, hown', fun s' hs' => ?_⟩, hg⟩
  by_cases e : s'.data.toList = s.data.toList
  · unfold upd
    rw [if_pos e, e, atKey_put_same hD (by trivial)]
  · unfold upd
    rw [if_neg e, atKey_put_other (by intro h; exact e (by simpa using h))]
    exact hat s' hs'

end Go.Proofs.Qxb6619218a
