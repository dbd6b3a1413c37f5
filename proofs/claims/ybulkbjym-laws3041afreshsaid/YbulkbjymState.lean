/- The contracts of (*BinaryConsensus).state: the round is there; the round is made. -/
import Derived.Test.YbulkbjymFresh
import Derived.Maps.OwnSet
import Derived.Deep.OwnRows
import Derived.RegionTactic
import Derived.LaidEqlPtr
namespace Go.Proofs.Ybulkbjym
open Go.RowKit Go.Maps

/-- How a pointer to a whole block, or nil, reads as a datum: the block's number, or -1. -/
def ptrElem : Value → Option (DataW Unit × List MemPlace)
  | .pointer (some ⟨b, 0, none⟩) => some (.lit (.int .i64 (b : Int)), [])
  | .pointer none => some (.lit (.int .i64 (-1)), [])
  | _ => none

theorem ptrElem_mk (b : Nat) : ptrElem (.pointer (some ⟨b, 0, none⟩)) = some (.lit (.int .i64 (b : Int)), []) := rfl
theorem ptrElem_nil : ptrElem (.pointer none) = some (.lit (.int .i64 (-1)), []) := rfl
theorem ptrElem_inv {v : Value} {b : Nat} {ps : List MemPlace} (h : ptrElem v = some (.lit (.int .i64 (b : Int)), ps)) : v = .pointer (some ⟨b, 0, none⟩) := by
  unfold ptrElem at h
  split at h
  · simp at h
    rw [show b = _ from (Int.ofNat.inj h.1).symm]
  · simp at h
  · cases h

theorem lt_of_cell {w : World} {a : Addr} {v : Value} (h : w.cell? a = some v) : a.block < w.heap.size := by
  unfold World.cell? at h
  split at h
  · rename_i e
    exact (Array.getElem?_eq_some_iff.1 e).1
  · cases h

theorem cell_new {w : World} {a : Addr} {v : Value} (o : Obj) (h : w.cell? a = some v) : (w.alloc o).cell? a = some v := by
  rw [World.cell?_alloc_lt w o a (lt_of_cell h)]; exact h

theorem law3 : Keyed Yba.prog 3 := int_keyed Yba.underlying3
theorem zero31 (w : World) : (zeroValue 31).run Yba.prog w = .ok (.pointer none) w := by kernel_rfl
theorem info4 : (Yba.prog.info? 4).map (fun i => (i.zero, i.size, i.bytes)) = some (some (.bool false), 1, 1) := by kernel_rfl

set_option maxHeartbeats 400000 in
theorem state_hit (rb bm n b : Nat) (x : Int) (D : DataW Unit) (w : World) (c11 : w.cell? ⟨rb, 11, none⟩ = some (.map (some bm)))
    (hown : w.ownsMap Yba.prog 3 ptrElem bm n D) (hwx : (Lit.int .i64 x).wf = true) (hhas : Maps.has D (.int .i64 x) = true) (hat : D.atKey (.int .i64 x) (.lit (.int .i64 (-1))) = .lit (.int .i64 (b : Int))) :
    Calls Yba.prog 6 #[.pointer (some ⟨rb, 0, none⟩), .int .i64 x] w fun e w' => e = .returned (.pointer (some ⟨b, 0, none⟩)) ∧ w' = w := by
  have hkey := keyOf_int_mk Yba.underlying3 hwx
  obtain ⟨v, ps, hrun, hv⟩ := hown.look_ok law3 Yba.underlying27 (zero31 _) ptrElem_nil hkey
  rw [hat] at hv
  rw [hhas] at hrun
  rw [ptrElem_inv hv] at hrun
  clear hv hat hhas
  go_enter Yba.func6, Yba.ntmps6
  go_wp2
  go_ret
  exact ⟨rfl, rfl⟩


theorem madeFalse (N i : Nat) (h : i < N) : (madeCells #[.bool false] N)[i]? = some (.bool false) := by simp [madeCells, h, Nat.mod_one]

/-- The fresh round's cells. -/
abbrev roundCells (p q r N : Nat) : Array Value :=
  #[.slice (some ⟨p, 0, none⟩) N N, .slice (some ⟨q, 0, none⟩) N N, .int .i64 0, .int .i64 0, .int .u8 0, .int .u8 0, .int .i64 0, .int .u8 0, .slice (some ⟨r, 0, none⟩) N N, .int .i64 0, .int .i64 0, .int .i64 0, .int .i64 0, .int .u8 0, .bool false, .bool false, .bool false, .bool false]

theorem fresh_of_blocks (w1 : World) (s N p q r : Nat) (hA : ∀ k, s ≤ k → k < s + 3 → w1.heap[k]? = some (.cells (madeCells #[.bool false] N) 4))
    (hS : w1.heap[s + 3]? = some (.cells (roundCells p q r N) 44)) (hp : s ≤ p ∧ p < s + 3) (hq : s ≤ q ∧ q < s + 3) (hr : s ≤ r ∧ r < s + 3) : FreshAt w1 (s + 3) N := by
  have hrow : ∀ x, s ≤ x → x < s + 3 → ∀ i, i < N → w1.cell? ⟨x, i, none⟩ = some (.bool false) := by
    intro x h1 h2 i hi
    simp [World.cell?, hA x h1 h2, madeFalse N i hi]
  have hc : ∀ o, w1.cell? ⟨s + 3, o, none⟩ = (roundCells p q r N)[o]? := by
    intro o
    simp [World.cell?, hS]
  refine ⟨⟨p, q, r, hc _, hc _, hc _, hrow p hp.1 hp.2, hrow q hq.1 hq.2, hrow r hr.1 hr.2⟩, hc _, hc _, hc _, hc _, hc _, hc _, ?_, hc _, hc _, hc _, hc _, hc _⟩
  intro k hk
  rw [hc]
  match k, hk with
  | 0, _ => rfl
  | 1, _ => rfl
  | 2, _ => rfl
  | 3, _ => rfl

/-- The end of 'state' where it makes the round, whatever the order of the three rows. -/
theorem miss_end (w w1 : World) (bm n N p q r : Nat) (x : Int) (D : DataW Unit) (hown : w.ownsMap Yba.prog 3 ptrElem bm n D)
    (hown1 : w1.ownsMap Yba.prog 3 ptrElem bm (n + 1) (D.put (.int .i64 x) (.lit (.int .i64 ((w.heap.size + 3 : Nat) : Int)))))
    (hturn : ((((w.alloc (.cells (madeCells #[.bool false] N) 4)).alloc (.cells (madeCells #[.bool false] N) 4)).alloc (.cells (madeCells #[.bool false] N) 4)).alloc (.cells (roundCells p q r N) 44)).drew.mapTurned w1 bm)
    (hp : w.heap.size ≤ p ∧ p < w.heap.size + 3) (hq : w.heap.size ≤ q ∧ q < w.heap.size + 3) (hr : w.heap.size ≤ r ∧ r < w.heap.size + 3) :
    w1.ownsMap Yba.prog 3 ptrElem bm (n + 1) (D.put (.int .i64 x) (.lit (.int .i64 ((w.heap.size + 3 : Nat) : Int)))) ∧ w.grownBy w1 (some bm) ∧ w1.heap.size = w.heap.size + 4 ∧ FreshAt w1 (w.heap.size + 3) N ∧ ∃ f, w1.rowIs (w.heap.size + 3) 44 18 f := by
  have hlt := hown.lt
  have hg := hturn.grown
  have hsz : w1.heap.size = w.heap.size + 4 := by
    obtain ⟨es, clock, es', clock', hb, rfl⟩ := hturn
    simp [ChangeMaps.setBlock]
  have hold : ∀ k, k < w.heap.size → some k ≠ some bm → w1.heap[k]? = w.heap[k]? := by
    intro k hk hne
    rw [hg.block k (by simp; omega) hne]
    show ((((w.heap.push _).push _).push _).push _)[k]? = _
    simp only [Array.getElem?_push, Array.size_push]
    rw [if_neg (by omega), if_neg (by omega), if_neg (by omega), if_neg (by omega)]
  have hnew : w1.heap[w.heap.size + 3]? = some (.cells (roundCells p q r N) 44) := by
    rw [hg.block _ (by simp) (by intro h; cases h; omega)]
    show ((((w.heap.push _).push _).push _).push _)[w.heap.size + 3]? = _
    simp only [Array.getElem?_push, Array.size_push]
    rw [if_pos trivial]
  refine ⟨hown1, ⟨hg.os, hg.tape, hg.output, by omega, hold⟩, hsz, fresh_of_blocks w1 w.heap.size N p q r ?_ hnew hp hq hr, fun o => ((roundCells p q r N)[o]?).getD undef, _, hnew, rfl, fun i hi => ?_⟩
  · intro k h1 h2
    rw [hg.block k (by simp; omega) (by intro h; cases h; omega)]
    show ((((w.heap.push _).push _).push _).push _)[k]? = _
    simp only [Array.getElem?_push, Array.size_push]
    rw [if_neg (by omega)]
    by_cases e2 : k = w.heap.size + 1 + 1
    · rw [if_pos e2]
    · rw [if_neg e2]
      by_cases e1 : k = w.heap.size + 1
      · rw [if_pos e1]
      · rw [if_neg e1, if_pos (by omega)]
  · have hlt : i < (roundCells p q r N).size := hi
    show (roundCells p q r N)[i]? = some (((roundCells p q r N)[i]?).getD undef)
    rw [Array.getElem?_eq_getElem hlt]; rfl

set_option maxHeartbeats 400000 in
theorem state_miss (rb bm n N : Nat) (x : Int) (D : DataW Unit) (w : World) (hN : N ≤ 65535) (c0 : w.cell? ⟨rb, 0, none⟩ = some (.int .i64 N)) (c11 : w.cell? ⟨rb, 11, none⟩ = some (.map (some bm)))
    (hown : w.ownsMap Yba.prog 3 ptrElem bm n D) (hwx : (Lit.int .i64 x).wf = true) (hhas : Maps.has D (.int .i64 x) = false) (hn : n < maxLen) :
    Calls Yba.prog 6 #[.pointer (some ⟨rb, 0, none⟩), .int .i64 x] w fun e w' => e = .returned (.pointer (some ⟨w.heap.size + 3, 0, none⟩)) ∧
      w'.ownsMap Yba.prog 3 ptrElem bm (n + 1) (D.put (.int .i64 x) (.lit (.int .i64 ((w.heap.size + 3 : Nat) : Int)))) ∧ w.grownBy w' (some bm) ∧ w'.heap.size = w.heap.size + 4 ∧ FreshAt w' (w.heap.size + 3) N ∧ ∃ f, w'.rowIs (w.heap.size + 3) 44 18 f := by
  have hkey := keyOf_int_mk Yba.underlying3 hwx
  obtain ⟨v, ps, hrun, hv⟩ := hown.look_ok law3 Yba.underlying27 (zero31 _) ptrElem_nil hkey
  rw [hhas] at hrun
  clear hv hhas
  have c11' : ∀ o1 o2 o3 o4, ((((w.alloc o1).alloc o2).alloc o3).alloc o4).cell? ⟨rb, 11, none⟩ = some (.map (some bm)) := fun o1 o2 o3 o4 => cell_new o4 (cell_new o3 (cell_new o2 (cell_new o1 c11)))
  have hmk := run_make_row' (P := Yba.prog) 38 4 (.bool false) 1 Yba.underlying38 info4 rfl .i64 .i64 N (by omega) (by omega)
  go_enter Yba.func6, Yba.ntmps6
  go_wp2
  go_region
  all_goals
    go_wp2_with (at_mapUpdate; refine wpList_mapUpdate_in _ rfl _ _ _ 27 rfl 3 31 law3 Yba.underlying27 ptrElem bm n D rfl (by exact ((((hown.alloc _).alloc _).alloc _).alloc _).drew) hn _ _ _ rfl rfl hkey _ [] (ptrElem_mk _) ?_; intro w1 hown1 hturn1)
    go_ret
    exact ⟨rfl, miss_end w w1 bm n N _ _ _ x D hown hown1 hturn1 (by omega) (by omega) (by omega)⟩

/-- The same, the new round's block a letter. -/
theorem state_new (rb bm n N : Nat) (x : Int) (D : DataW Unit) (w : World) (hN : N ≤ 65535) (c0 : w.cell? ⟨rb, 0, none⟩ = some (.int .i64 N)) (c11 : w.cell? ⟨rb, 11, none⟩ = some (.map (some bm)))
    (hown : w.ownsMap Yba.prog 3 ptrElem bm n D) (hwx : (Lit.int .i64 x).wf = true) (hhas : Maps.has D (.int .i64 x) = false) (hn : n < maxLen) :
    Calls Yba.prog 6 #[.pointer (some ⟨rb, 0, none⟩), .int .i64 x] w fun e w' => ∃ st, e = .returned (.pointer (some ⟨st, 0, none⟩)) ∧ w.heap.size ≤ st ∧ st < w'.heap.size ∧
      w'.ownsMap Yba.prog 3 ptrElem bm (n + 1) (D.put (.int .i64 x) (.lit (.int .i64 (st : Int)))) ∧ w.grownBy w' (some bm) ∧ FreshAt w' st N ∧ ∃ f, w'.rowIs st 44 18 f := by
  refine (state_miss rb bm n N x D w hN c0 c11 hown hwx hhas hn).mono ?_
  rintro e w' ⟨he, h1, h2, h3, h4, h5⟩
  exact ⟨w.heap.size + 3, he, by omega, by omega, h1, h2, h4, h5⟩

/-- '!=' between a pointer and itself. -/
theorem info44 : (Yba.prog.info? 44).isSome = true := by kernel_rfl
theorem neq_same (a : Addr) (w : World) : (binOp .neq 31 (.pointer (some a)) (.pointer (some a))).run Yba.prog w = .ok (.bool false) w := by
  obtain ⟨j, hj⟩ := Option.isSome_iff_exists.1 info44
  have h : ∀ d : Nat, (Op.equalIn (d + 1) 31 (.pointer (some a)) (.pointer (some a))).run Yba.prog w = .ok true w := fun d => by
    simp [Op.equalIn, run_underlying Yba.underlying31, sizeOf, typeInfo, hj, run_sameAddr_same]
  simp only [binOp]
  simp [Op.equal, Op.maxDepth, h 9999]

/-- What the map's length says to the walk. -/
theorem len_run {w : World} {bm n : Nat} {D : DataW Unit} (h : w.ownsMap Yba.prog 3 ptrElem bm n D) (ty : TypeId) : (Builtin.len_ #[27] ty #[.map (some bm)]).run Yba.prog w = .ok (.int .i64 (Maps.size D)) w :=
  h.len Yba.underlying27 ty

/-- What a look-up at a key that is there says to the walk. -/
theorem look_run {w : World} {bm n b : Nat} {x : Int} {D : DataW Unit} (hown : w.ownsMap Yba.prog 3 ptrElem bm n D) (hwx : (Lit.int .i64 x).wf = true) (hat : D.atKey (.int .i64 x) (.lit (.int .i64 (-1))) = .lit (.int .i64 (b : Int))) :
    (Instr.lookup 27 (.map (some bm)) (.int .i64 x) false).run Yba.prog w = .ok (.pointer (some ⟨b, 0, none⟩)) w := by
  obtain ⟨v, ps, hrun, hv⟩ := hown.lookup law3 Yba.underlying27 (zero31 _) ptrElem_nil (keyOf_int_mk Yba.underlying3 hwx)
  rw [hat] at hv
  rw [ptrElem_inv hv] at hrun
  exact hrun

end Go.Proofs.Ybulkbjym
