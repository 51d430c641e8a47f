/-
  THE WALK of 'indexOfKeys'.
-/
import Derived.Test.Qxb6619218aIdx
import Derived.ArgAppend
namespace Go.Proofs.Qxb6619218a
open Go.RowKit

theorem run_makeMap45 (n : Int) (w : World) : (Instr.makeMap 45 (some (.int .i64 n))).run Try.prog w = .ok (.map (some w.heap.size)) (w.alloc (.map #[] 0)) := by
  kernel_rfl

/-- A store into such a map AT THE OPERATION (after the guide's 'wpList_mapUpdate_own'). -/
theorem wpList_mapIs (w : World) {ops : Array Oper} {rest : List Oper} {o : Oper} {a : Act} {Q : Exit → Act → World → Prop}
    (hg : o.guard = none) (m x v : Operand) (hop : o.op = Op.mapUpdate 45 m x v) (b n : Nat) (h : ByteArray → Value) (hm : a.eval m = .map (some b)) (hmap : MapIs w b n h) (hn : n < maxLen)
    (s : ByteArray) (val : Value) (hx : a.eval x = .string s) (hv : a.eval v = val) (hs : s.size ≤ maxLen)
    (hK : ∀ w', MapIs w' b (n + 1) (upd h s val) → w.grownBy w' (some b) → wpList Try.prog ops Q rest (a.put o.dst undef) w') :
    wpList Try.prog ops Q (o :: rest) a w := by
  refine wpList_plain hg fun K' hK' => ?_
  obtain ⟨w', hrun, r1, r2⟩ := hmap.store hn hs val
  unfold Oper.wp
  simp [execOp, hop, hm, hx, hv, hrun, Result.andThen]
  exact hK' _ _ (hK w' r1 r2)

theorem holds_one {w : World} {P p : Nat} {x : Value} (h : w.cell? ⟨P, p, none⟩ = some x) : ∀ b, some (⟨P, p, none⟩ : Addr) = some b → ∀ (j : Nat) u, [x][j]? = some u → w.cell? (b.add j) = some u := by
  intro b hb j u hu
  cases hb
  match j, hu with
  | 0, hu => simp at hu; subst hu; simpa [Addr.add] using h

theorem cell_one_at {w : World} {n : Nat} (hn : Hid (w.heap.size = n)) (x : Value) (t : TypeId) : ∀ (j : Nat) u, [x][j]? = some u → (w.alloc (.cells #[x] t)).cell? ((⟨n, 0, none⟩ : Addr).add j) = some u := by
  have e := hn.out
  subst e
  exact cell_one_new _ _ _

def IndexPost (w : World) (ss : List ByteArray) (len : Nat) (e : Ending) (w' : World) : Prop :=
  e = .returned (.map (some w.heap.size)) ∧ IndexAt w' w.heap.size ss len ∧ Below w.heap.size w w'

set_option maxRecDepth 100000 in
set_option maxHeartbeats 400000 in
theorem index_walk (b off len cap : Nat) (ss : List ByteArray) (w : World) (hm : len ≤ 1048576) (HL : Hid (ss.length = len)) (hsz : Hid (∀ s ∈ ss, s.size ≤ maxLen)) (hb : b < w.heap.size)
    (hc : Hid (∀ j, j < ss.length → w.cell? ⟨b, off + j, none⟩ = some (.string (ss.getD j ByteArray.empty)))) :
    Calls Try.prog 29 #[.slice (some ⟨b, off, none⟩) len cap] w (IndexPost w ss len) := by
  have hmm := run_makeMap45
  have hmk := run_make_row' (P := Try.prog) 28 3 (.int .i64 0) 8 Try.underlying28 Try.info3 rfl .i64 .i64 len (by omega) (by omega)
  have hnl := fun (w : World) (a : Option Addr) (n c : Nat) => Lib.run_eql_slice_nil (P := Try.prog) w 28 3 a n c 0 0 Try.underlying28
  obtain ⟨i0, hi, hz0, hz1, hz2⟩ := info_parts Try.info3
  go_enter Try.func29, Try.ntmps29
  go_wp2
  go_loopw [15] (fun i wr => ∃ (k : Nat) (h : ByteArray → Value), k ≤ len ∧ i = .int .i64 k ∧ Hid (Idx w.heap.size w wr ss len k h)) (fun i _ => len - (intOf i).toNat)
  case atStart => exact ⟨0, _, Nat.zero_le _, rfl, Idx.start w ss len⟩
  case round =>
    obtain ⟨k, h, hk, rfl, I⟩ := hrel
    by_cases hlt : k < len
    · obtain ⟨s, hsd⟩ : ∃ s, s = ss.getD k ByteArray.empty := ⟨_, rfl⟩
      have hcx : wr.cell? ⟨b, off + k, none⟩ = some (.string s) := by rw [hsd]; exact (I.out.bel.cell (by exact hb)).trans (hc.out k (by have := HL.out; omega))
      have hss : s.size ≤ maxLen := by
        rw [hsd]; apply hsz.out
        have hkl : k < ss.length := by have := HL.out; omega
        simp [List.getD, List.getElem?_eq_getElem hkl]
      obtain ⟨u, hcu⟩ := I.out.cell hlt
      have hfz := I.out.frozen k
      have hlk := (I.out.map.setCell ⟨w.heap.size + 1, k, none⟩ (.int .i64 (k : Nat)) (by show w.heap.size ≠ w.heap.size + 1; omega)).look hss
      have hws : Hid ((wr.setCell ⟨w.heap.size + 1, k, none⟩ (.int .i64 (k : Nat))).heap.size = wr.heap.size) := by show _ = _; simp [World.setCell]
      have HS : Hid (s = ss.getD k ByteArray.empty) := hsd
      clear hsd
      rcases I.out.hdr s with ⟨h0, hv⟩ | ⟨p, hp, hv⟩ | ⟨h2, ho⟩
      · obtain ⟨W2, hup, hmap, gm⟩ := (I.out.map.setCell ⟨w.heap.size + 1, k, none⟩ (.int .i64 (k : Nat)) (by show w.heap.size ≠ w.heap.size + 1; omega)).store (by unfold maxLen; omega) hss (.slice (some ⟨w.heap.size + 1, k, none⟩) 1 1)
        rw [hv] at hlk
        have I' := I.out.step_new hlt HS.out h0 gm hmap
        have H' : Hid (Idx w.heap.size w W2 ss len (k + 1) (upd h s (.slice (some ⟨w.heap.size + 1, k, none⟩) 1 1))) := I'
        clear I' hmap gm hv h0
        go_wp2
        go_roundw
        case rel => exact ⟨k + 1, _, by omega, by go_num, H'⟩
        case measure => simp [intOf]; omega
      · rw [hv] at hlk
        have HM : Hid (∀ ob, MapIs ((wr.setCell ⟨w.heap.size + 1, k, none⟩ (.int .i64 (k : Nat))).alloc ob) w.heap.size k h) := fun ob => (I.out.map.setCell ⟨w.heap.size + 1, k, none⟩ (.int .i64 (k : Nat)) (by show w.heap.size ≠ w.heap.size + 1; omega)).kept (World.grownBy_alloc _ ob none) (by simp)
        have HP : Hid (∀ ob, ((wr.setCell ⟨w.heap.size + 1, k, none⟩ (.int .i64 (k : Nat))).alloc ob).cell? ⟨w.heap.size + 1, p, none⟩ = some (.int .i64 (p : Nat))) := fun ob => I.out.one_cell hp ob
        have HV : Hid (hits ss s k = [p]) := hp
        clear hp hv
        go_wp2_with (first
          | (at_builtin; refine wpList_append_grows _ rfl _ _ 28 rfl 3 i0 (.int .i64 0) 1 8 Try.underlying28 hi hz0 hz1 hz2 rfl (by decide) (some ⟨w.heap.size + 1, p, none⟩) 1 1 [.int .i64 (p : Nat)] rfl (by simp) rfl (holds_one (HP.out _)) ⟨wr.heap.size, 0, none⟩ 1 1 [.int .i64 (k : Nat)] rfl rfl (cell_one_at hws _ _) (ints_oneCell .i64 [(k : Int)]) (by omega) (by unfold maxLen; omega) (by omega) ?_; intro v' w1 hown' hgrow)
          | (at_mapUpdate; refine wpList_mapIs _ rfl _ _ _ rfl w.heap.size k h rfl ((HM.out _).kept hgrow (by simp)) (by unfold maxLen; omega) s _ rfl rfl hss ?_; intro w2 hmap2 gm2)
          | go_in)
        have H' : Hid (Idx w.heap.size w w2 ss len (k + 1) (upd h s v')) := I.out.step_second hlt HS.out HV.out (by simp [World.setCell]) hown' hgrow gm2 hmap2
        go_roundw
        case rel => exact ⟨k + 1, _, by omega, by go_num, H'⟩
        case measure => simp [intOf]; omega
      · obtain ⟨g, gc, hv⟩ : ∃ g gc, h s = .slice (some ⟨g, 0, none⟩) (hits ss s k).length gc := by
          obtain ⟨_, hc'⟩ := ho
          rcases hc' with ⟨_, h0⟩ | ⟨g, gc, cur, hv, _⟩
          · omega
          · exact ⟨g, gc, hv⟩
        obtain ⟨n, hn⟩ : ∃ n, n = (hits ss s k).length := ⟨_, rfl⟩
        have hnk : n ≤ k := by rw [hn]; exact hits_le _ _ _
        have HO : Hid ((wr.setCell ⟨w.heap.size + 1, k, none⟩ (.int .i64 (k : Nat))).ownsRow (w.heap.size + 1 + 1) 3 1 (.slice (some ⟨g, 0, none⟩) n gc) n (pcells (hits ss s k))) := by
          have := ownsRow_setCell_below (a := ⟨w.heap.size + 1, k, none⟩) ho (by show w.heap.size + 1 < w.heap.size + 1 + 1; omega) (.int .i64 (k : Nat))
          rw [hv, ← hn] at this
          exact this
        have hgb : w.heap.size + 1 + 1 ≤ g := (ho.lt g (by rw [hv]; rfl)).1
        have hwz : w.heap.size + 1 < wr.heap.size := by have := (ho.lt g (by rw [hv]; rfl)).2; omega
        rw [← hn] at hv h2
        rw [hv] at hlk
        have HM : Hid (∀ ob, MapIs ((wr.setCell ⟨w.heap.size + 1, k, none⟩ (.int .i64 (k : Nat))).alloc ob) w.heap.size k h) := fun ob => (I.out.map.setCell ⟨w.heap.size + 1, k, none⟩ (.int .i64 (k : Nat)) (by show w.heap.size ≠ w.heap.size + 1; omega)).kept (World.grownBy_alloc _ ob none) (by simp)
        have HV : Hid (h s = .slice (some ⟨g, 0, none⟩) n gc) := hv
        have HN : Hid (n = (hits ss s k).length) := hn
        have HNE : Hid (some w.heap.size ≠ some g) := by intro e; cases e; omega
        clear hv hn ho
        go_wp2_with (first
          | (at_builtin; refine wpList_append_own_at _ rfl _ _ 28 rfl (w.heap.size + 1 + 1) 3 i0 (.int .i64 0) 1 8 Try.underlying28 hi hz0 hz1 hz2 rfl (by decide) _ _ _ rfl (HO.out.alloc _) ⟨wr.heap.size, 0, none⟩ 1 1 [.int .i64 (k : Nat)] rfl rfl (cell_one_at hws _ _) (ints_oneCell .i64 [(k : Int)]) (by unfold maxLen; omega) (by omega) (by simp [World.setCell]; omega) ?_; intro v' w1 hown' hgrow hnil hloc)
          | (at_mapUpdate; refine wpList_mapIs _ rfl _ _ _ rfl w.heap.size k h rfl ((HM.out _).kept hgrow HNE.out) (by unfold maxLen; omega) s _ rfl rfl hss ?_; intro w2 hmap2 gm2)
          | go_in)
        have H' : Hid (Idx w.heap.size w w2 ss len (k + 1) (upd h s v')) := by
          have e := HN.out
          refine I.out.step_more hlt HS.out (by omega) (by rw [← e]; exact hown') (by rw [HV.out]; exact hgrow) ?_ gm2 hmap2
          rw [HV.out]
          rcases hloc with hl | hl
          · exact Or.inl hl
          · right; rw [hl]; simp [World.setCell]
        go_roundw
        case rel => exact ⟨k + 1, _, by omega, by go_num, H'⟩
        case measure => simp [intOf]; omega
    · obtain rfl : k = len := by omega
      go_wp2
      go_ret
      exact ⟨rfl, I.out.done, I.out.bel⟩

theorem index_any (a : Option Addr) (len cap : Nat) (ss : List ByteArray) (w : World) (hm : len ≤ 1048576) (hpos : 0 < len) (hlen : ss.length = len) (hsz : ∀ s ∈ ss, s.size ≤ maxLen) (h : StrsAt w a ss) :
    Calls Try.prog 29 #[.slice a len cap] w (IndexPost w ss len) := by
  rcases h with rfl | ⟨b, off, rfl, hb, hc⟩
  · simp at hlen; omega
  · exact index_walk b off len cap ss w hm hlen hsz hb hc

/-! ### placesOf where the set holds more than eight keys -/
/-- The index is there already. -/
theorem many_ready (R : Nat) (a : Option Addr) (len cap M : Nat) (ss : List ByteArray) (key : ByteArray) (w : World) (hR : Hid (RSet w R a len cap (some M))) (hl : 8 < (len : Int)) (hI : Hid (IndexAt w M ss len)) (hkey : key.size ≤ maxLen) :
    Calls Try.prog 23 #[.pointer (some ⟨R, 0, none⟩), .string key] w (PlacesPost w (hits ss key len)) := by
  have h1 := hR.out.keys
  have h2 := hR.out.at_
  obtain ⟨n, h, hmap, hp⟩ := hI.out
  have hlk := hmap.look hkey
  have HP : Hid (PlacesAt w (h key) (hits ss key len)) := hp key
  have hnm := fun (w : World) => run_eql_map_nil (P := Try.prog) w 45 9 28 (some M) Try.underlying45
  clear hmap hp
  go_enter Try.func23, Try.ntmps23
  go_wp2
  go_ret
  exact ⟨_, rfl, HP, Below.refl _ _⟩

end Go.Proofs.Qxb6619218a
