/- The walk of LawS3041AScript. -/
import Derived.Test.YbulkbjymState
import Derived.Deep.QuietTactic
import Derived.BigQuiet
namespace Go.Proofs.Ybulkbjym.lawS3041AScript
open Go.RowKit Go.Maps

/-- WHAT THE WALK IS TOLD OF A SLICE OF INTEGERS THAT CAME IN: it is nil; or it leads to a row of 'cap' cells, the numbers 'zs' (the first 'len' are its elements, the rest its spare room), each fitting its kind. -/
def IsRow (k : IntKind) (w : World) (a : Option Addr) (len cap : Nat) (zs : List Int) : Prop :=
  (a = none ∧ len = 0 ∧ cap = 0 ∧ zs = []) ∨
  ∃ x, a = some x ∧ len ≤ cap ∧ cap ≤ maxLen ∧ zs.length = cap ∧ (∀ i, i < zs.length → w.cell? (x.add i) = some (.int k (zs.getD i 0))) ∧ ∀ n ∈ zs, (Lit.int k n).wf = true


/-- What the struct of the law's own BinaryConsensus holds, m the map's block. -/
abbrev bcCells (N m : Nat) : Array Value :=
  #[.int .i64 N, .int .i64 0, .int .i64 1, .int .u8 0, .int .i64 3, .int .i64 0, .int .i64 0, .bool false, .int .i64 0, .bool false, .bool false, .map (some m), .bool false, .int .i64 0, .int .i64 0]

/-- What holds behind i rounds of the first loop: m, m + 1, m + 2 are the blocks of the map, of the struct and of 'got'; z: the script; G: the block of each round that was handed out; d: how many entries. -/
structure Inv (w : World) (N len : Nat) (z : Nat → Int) (G : Nat → Nat) (i d : Nat) (D : DataW Unit) (wr : World) : Prop where
  below : Below w.heap.size w wr
  bc : wr.heap[w.heap.size + 1]? = some (.cells (bcCells N w.heap.size) 30)
  own : wr.ownsMap Yba.prog 3 ptrElem w.heap.size i D
  size : Maps.size D = d
  got : wr.rowIs (w.heap.size + 2) 31 len (fun j => if j < i then .pointer (some ⟨G j, 0, none⟩) else .pointer none)
  far : ∀ j, j < i → w.heap.size + 2 < G j ∧ G j < wr.heap.size
  atk : ∀ j, j < i → D.atKey (.int .i64 (z j)) (.lit (.int .i64 (-1))) = .lit (.int .i64 (G j : Int))
  has : ∀ x, Maps.has D (.int .i64 x) = true ↔ ∃ j, j < i ∧ z j = x
  mark : ∀ j, j < i → (∀ j', j' < j → z j' ≠ z j) → wr.cell? ⟨G j, 17, none⟩ = some (.bool true) ∧ wr.cell? ⟨G j, 6, none⟩ = some (.int .i64 ((j : Int) + 1))

theorem Inv.c0 {w wr : World} {N len i d : Nat} {z : Nat → Int} {G : Nat → Nat} {D : DataW Unit} (h : Inv w N len z G i d D wr) : wr.cell? ⟨w.heap.size + 1, 0, none⟩ = some (.int .i64 N) := by simp [World.cell?, h.bc]
theorem Inv.c11 {w wr : World} {N len i d : Nat} {z : Nat → Int} {G : Nat → Nat} {D : DataW Unit} (h : Inv w N len z G i d D wr) : wr.cell? ⟨w.heap.size + 1, 11, none⟩ = some (.map (some w.heap.size)) := by simp [World.cell?, h.bc]

theorem own_of_heap {w w' : World} {bm n : Nat} {D : DataW Unit} (h : w.ownsMap Yba.prog 3 ptrElem bm n D) (e : w'.heap = w.heap) : w'.ownsMap Yba.prog 3 ptrElem bm n D := by
  obtain ⟨es, clock, hb, r⟩ := h
  exact ⟨es, clock, by rw [e]; exact hb, r⟩

/-- Draws turn nothing. -/
theorem Inv.drewN {w wr : World} {N len i d : Nat} {z : Nat → Int} {G : Nat → Nat} {D : DataW Unit} (h : Inv w N len z G i d D wr) (n : Nat) : Inv w N len z G i d D (wr.drewN n) :=
  ⟨⟨h.below.os, h.below.tape, h.below.output, h.below.size, h.below.block⟩, h.bc, own_of_heap h.own rfl, h.size, h.got, h.far, h.atk, h.has, h.mark⟩

theorem Fresh_drewN {w : World} {b N : Nat} (h : FreshAt w b N) (n : Nat) : FreshAt (w.drewN n) b N := by
  obtain ⟨r, c2, c3, c4, c5, c6, c7, c9, c13, c14, c15, c16, c17⟩ := h
  exact ⟨r, c2, c3, c4, c5, c6, c7, c9, c13, c14, c15, c16, c17⟩

/-- A round that is there: 'got[i]' is stored, nothing else. -/
theorem Inv.again {w wr : World} {N len i d p : Nat} {z : Nat → Int} {G : Nat → Nat} {D : DataW Unit} (h : Inv w N len z G i d D wr) (hp : p < i) (hz : z p = z i) :
    Inv w N len z (fun j => if j = i then G p else G j) (i + 1) d D (wr.setCell ⟨w.heap.size + 2, i, none⟩ (.pointer (some ⟨G p, 0, none⟩))) := by
  refine ⟨h.below.setCell (by simp) _, ?_, ((h.own.setCell (by simp) _).mono (by omega)), h.size, ?_, ?_, ?_, ?_, ?_⟩
  · rw [Below.heap_setCell _ _ _ _ (by simp)]; exact h.bc
  · refine (h.got.set i _).congr fun j _ => ?_
    by_cases e : j = i
    · subst e; simp
    · simp only [if_neg e]
      by_cases hj : j < i
      · rw [if_pos hj, if_pos (by omega)]
      · rw [if_neg hj, if_neg (by omega)]
  · intro j hj
    have hs : (wr.setCell ⟨w.heap.size + 2, i, none⟩ (.pointer (some ⟨G p, 0, none⟩))).heap.size = wr.heap.size := by simp [World.setCell]
    rw [hs]
    by_cases e : j = i
    · subst e; simpa using h.far p hp
    · simpa [e] using h.far j (by omega)
  · intro j hj
    by_cases e : j = i
    · subst e; simpa [← hz] using h.atk p hp
    · simpa [e] using h.atk j (by omega)
  · intro x
    rw [h.has x]
    constructor
    · rintro ⟨j, hj, e⟩; exact ⟨j, by omega, e⟩
    · rintro ⟨j, hj, e⟩
      by_cases ej : j = i
      · exact ⟨p, hp, by rw [hz, ← ej]; exact e⟩
      · exact ⟨j, by omega, e⟩
  · intro j hj hfirst
    have hne : j ≠ i := fun e => hfirst p (by omega) (by rw [e]; exact hz)
    have hf := (h.far j (by omega)).1
    have hm := h.mark j (by omega) hfirst
    simp only [if_neg hne]
    rw [World.cell?_setCell_other _ _ _ _ (fun e => by injection e; omega), World.cell?_setCell_other _ _ _ _ (fun e => by injection e; omega)]
    exact hm

/-- What holds between 'state' (it has made the round of entry i in block st) and the stores behind it. -/
structure Mid (w : World) (N len : Nat) (z : Nat → Int) (G : Nat → Nat) (i d st : Nat) (D : DataW Unit) (wr : World) : Prop where
  below : Below w.heap.size w wr
  bc : wr.heap[w.heap.size + 1]? = some (.cells (bcCells N w.heap.size) 30)
  own : wr.ownsMap Yba.prog 3 ptrElem w.heap.size (i + 1) D
  size : Maps.size D = d + 1
  got : wr.rowIs (w.heap.size + 2) 31 len (fun j => if j < i then .pointer (some ⟨G j, 0, none⟩) else .pointer none)
  far : ∀ j, j < i → w.heap.size + 2 < G j ∧ G j < st
  new : w.heap.size + 2 < st ∧ st < wr.heap.size
  row : ∃ f, wr.rowIs st 44 18 f
  atk : ∀ j, j < i → D.atKey (.int .i64 (z j)) (.lit (.int .i64 (-1))) = .lit (.int .i64 (G j : Int))
  ati : D.atKey (.int .i64 (z i)) (.lit (.int .i64 (-1))) = .lit (.int .i64 (st : Int))
  has : ∀ x, Maps.has D (.int .i64 x) = true ↔ ∃ j, j < i + 1 ∧ z j = x
  mark : ∀ j, j < i → (∀ j', j' < j → z j' ≠ z j) → wr.cell? ⟨G j, 17, none⟩ = some (.bool true) ∧ wr.cell? ⟨G j, 6, none⟩ = some (.int .i64 ((j : Int) + 1))

theorem Mid.of {w wr w1 : World} {N len i d st : Nat} {z : Nat → Int} {G : Nat → Nat} {D : DataW Unit} (h : Inv w N len z G i d D wr) (hno : ∀ j, j < i → z j ≠ z i) (h1 : wr.heap.size ≤ st) (h2 : st < w1.heap.size)
    (hown : w1.ownsMap Yba.prog 3 ptrElem w.heap.size (i + 1) (D.put (.int .i64 (z i)) (.lit (.int .i64 (st : Int))))) (hg : wr.grownBy w1 (some w.heap.size)) (hrow : ∃ f, w1.rowIs st 44 18 f) :
    Mid w N len z G i d st (D.put (.int .i64 (z i)) (.lit (.int .i64 (st : Int)))) w1 := by
  have hbs : w.heap.size + 1 < wr.heap.size := (Array.getElem?_eq_some_iff.1 h.bc).1
  have hgs := h.got.lt
  have hmap := h.own.isMap
  have htidy := h.own.tidy law3
  have hnot : Maps.has D (.int .i64 (z i)) = false := by
    cases hh : Maps.has D (.int .i64 (z i))
    · rfl
    · obtain ⟨j, hj, e⟩ := (h.has (z i)).1 hh
      exact absurd e (hno j hj)
  refine ⟨h.below.grown hg h.below.size (fun k hk => by cases hk; exact Nat.le_refl _), ?_, hown, ?_, ?_, ?_, ⟨by omega, h2⟩, hrow, ?_, ?_, ?_, ?_⟩
  · rw [hg.block _ hbs (by intro e; injection e; omega)]; exact h.bc
  · rw [size_put htidy, hnot, h.size]; rfl
  · exact h.got.of_block (hg.block _ hgs (by intro e; injection e; omega))
  · intro j hj
    have := h.far j hj
    omega
  · intro j hj
    rw [Maps.atKey_put_other (fun e => hno j hj (by injection e)) _ _]
    exact h.atk j hj
  · exact Maps.atKey_put_same hmap (by trivial) _ _
  · intro x
    by_cases e : x = z i
    · subst e
      rw [Maps.has_put_same hmap (by trivial)]
      exact ⟨fun _ => ⟨i, by omega, rfl⟩, fun _ => rfl⟩
    · rw [Maps.has_put_other (fun e' => e (by injection e')) _, h.has x]
      constructor
      · rintro ⟨j, hj, e1⟩; exact ⟨j, by omega, e1⟩
      · rintro ⟨j, hj, e1⟩
        exact ⟨j, by rcases Nat.lt_or_ge j i with h' | h'; exact h'; exact absurd (by rw [← e1, show j = i from by omega]) e, e1⟩
  · intro j hj hf
    have hm := h.mark j hj hf
    have hfar := h.far j hj
    have hb := hg.block (G j) hfar.2 (by intro e; injection e; omega)
    rw [World.cell?_of_block (w := wr) (a := ⟨G j, 17, none⟩) hb, World.cell?_of_block (w := wr) (a := ⟨G j, 6, none⟩) hb]
    exact hm

theorem Mid.drewN {w wr : World} {N len i d st : Nat} {z : Nat → Int} {G : Nat → Nat} {D : DataW Unit} (h : Mid w N len z G i d st D wr) (n : Nat) : Mid w N len z G i d st D (wr.drewN n) :=
  ⟨⟨h.below.os, h.below.tape, h.below.output, h.below.size, h.below.block⟩, h.bc, own_of_heap h.own rfl, h.size, h.got, h.far, h.new, h.row, h.atk, h.ati, h.has, h.mark⟩

theorem Mid.store {w wr : World} {N len i d st : Nat} {z : Nat → Int} {G : Nat → Nat} {D : DataW Unit} (h : Mid w N len z G i d st D wr) :
    Inv w N len z (fun j => if j = i then st else G j) (i + 1) (d + 1) D
      (((wr.setCell ⟨st, 17, none⟩ (.bool true)).setCell ⟨st, 6, none⟩ (.int .i64 ((i : Int) + 1))).setCell ⟨w.heap.size + 2, i, none⟩ (.pointer (some ⟨st, 0, none⟩))) := by
  obtain ⟨n1, n2⟩ := h.new
  obtain ⟨f, hrow⟩ := h.row
  have r1 := (hrow.set 17 (.bool true)).set 6 (.int .i64 ((i : Int) + 1))
  have r2 := r1.setOther (a := ⟨w.heap.size + 2, i, none⟩) (by simp; omega) (.pointer (some ⟨st, 0, none⟩))
  refine ⟨((h.below.setCell (by simp; omega) _).setCell (by simp; omega) _).setCell (by simp) _, ?_, (((h.own.setCell (by simp; omega) _).setCell (by simp; omega) _).setCell (by simp) _), h.size, ?_, ?_, ?_, h.has, ?_⟩
  · rw [Below.heap_setCell _ _ _ _ (by simp), Below.heap_setCell _ _ _ _ (by simp; omega), Below.heap_setCell _ _ _ _ (by simp; omega)]; exact h.bc
  · refine (((h.got.setOther (by simp; omega) _).setOther (by simp; omega) _).set i _).congr fun j _ => ?_
    by_cases e : j = i
    · subst e; simp
    · simp only [if_neg e]
      by_cases hj : j < i
      · rw [if_pos hj, if_pos (by omega)]
      · rw [if_neg hj, if_neg (by omega)]
  · intro j hj
    have hs : (((wr.setCell ⟨st, 17, none⟩ (.bool true)).setCell ⟨st, 6, none⟩ (.int .i64 ((i : Int) + 1))).setCell ⟨w.heap.size + 2, i, none⟩ (.pointer (some ⟨st, 0, none⟩))).heap.size = wr.heap.size := by simp [World.setCell]
    rw [hs]
    by_cases e : j = i
    · subst e; simpa using h.new
    · have := h.far j (by omega)
      simp only [if_neg e]
      omega
  · intro j hj
    by_cases e : j = i
    · subst e; simpa using h.ati
    · simpa [e] using h.atk j (by omega)
  · intro j hj hfirst
    by_cases e : j = i
    · subst e
      simp only [if_true]
      exact ⟨r2.cell (by omega), r2.cell (by omega)⟩
    · have hf := h.far j (by omega)
      have hm := h.mark j (by omega) hfirst
      simp only [if_neg e]
      have hb : (((wr.setCell ⟨st, 17, none⟩ (.bool true)).setCell ⟨st, 6, none⟩ (.int .i64 ((i : Int) + 1))).setCell ⟨w.heap.size + 2, i, none⟩ (.pointer (some ⟨st, 0, none⟩))).heap[G j]? = wr.heap[G j]? := by
        rw [Below.heap_setCell _ _ _ _ (by simp; omega), Below.heap_setCell _ _ _ _ (by simp; omega), Below.heap_setCell _ _ _ _ (by simp; omega)]
      rw [World.cell?_of_block (w := wr) (a := ⟨G j, 17, none⟩) hb, World.cell?_of_block (w := wr) (a := ⟨G j, 6, none⟩) hb]
      exact hm

theorem Inv.start (w : World) (N len : Nat) (z : Nat → Int) (G : Nat → Nat) :
    Inv w N len z G 0 0 (.map []) (((w.alloc (.map #[] 0)).alloc (.cells (bcCells N w.heap.size) 30)).alloc (.cells (madeCells #[.pointer none] len) 31)) := by
  refine ⟨(((Below.refl _ _).alloc (Nat.le_refl _) _).alloc (by simp) _).alloc (by simp; omega) _, ?_, ((World.ownsMap_made _ _ _ _).alloc _).alloc _, rfl, ?_, fun j hj => by omega, fun j hj => by omega, ?_, fun j hj => by omega⟩
  · show (((w.heap.push _).push _).push _)[w.heap.size + 1]? = _
    simp only [Array.getElem?_push, Array.size_push]
    rw [if_neg (by omega), if_pos trivial]
  · have h := World.rowIs_made ((w.alloc (.map #[] 0)).alloc (.cells (bcCells N w.heap.size) 30)) (.pointer none) len 31
    have e : ((w.alloc (.map #[] 0)).alloc (.cells (bcCells N w.heap.size) 30)).heap.size = w.heap.size + 2 := by simp
    rw [e] at h
    exact h.congr fun j _ => by simp
  · intro x
    constructor
    · intro h; cases h
    · rintro ⟨j, hj, _⟩; omega

/-- The first entry that is like entry i. -/
theorem first_of (z : Nat → Int) (x : Int) : ∀ i, (∃ j, j < i ∧ z j = x) → ∃ p, p < i ∧ z p = x ∧ ∀ j, j < p → z j ≠ x
  | 0, h => by obtain ⟨j, hj, _⟩ := h; omega
  | i + 1, h => by
    by_cases h' : ∃ j, j < i ∧ z j = x
    · obtain ⟨p, hp, e, hf⟩ := first_of z x i h'
      exact ⟨p, by omega, e, hf⟩
    · obtain ⟨j, hj, e⟩ := h
      have hji : j = i := by
        rcases Nat.lt_or_ge j i with hl | hl
        · exact absurd ⟨j, hl, e⟩ h'
        · omega
      subst hji
      exact ⟨j, by omega, e, fun k hk ek => h' ⟨k, hk, ek⟩⟩

end Go.Proofs.Ybulkbjym.lawS3041AScript
