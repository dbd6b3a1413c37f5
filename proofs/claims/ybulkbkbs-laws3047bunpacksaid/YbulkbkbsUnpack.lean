/- The contract of Reader.Unpack. -/
import Derived.Test.YbulkbkbsGetWalk
namespace Go.Proofs.Ybulkbkbs
open Go.RowKit
set_option linter.unusedVariables false

/-- What holds behind j rounds: nothing but the row d has turned, and its first j cells hold the values. -/
structure UInv (w0 : World) (d m : Nat) (V : Nat → Nat) (j : Nat) (wr : World) : Prop where
  grow : w0.grownBy wr (some d)
  row : wr.rowIs d 23 m (fun t => .int .u32 ((if t < j then V t else 0 : Nat) : Int))

theorem UInv.step {w0 wr w1 : World} {d m j : Nat} {V : Nat → Nat} (h : UInv w0 d m V j wr) (hb : Below wr.heap.size wr w1) : UInv w0 d m V (j + 1) (w1.setCell ⟨d, j, none⟩ (.int .u32 (V j : Nat))) := by
  have hlt := h.row.lt
  have hr1 : w1.rowIs d 23 m (fun t => .int .u32 ((if t < j then V t else 0 : Nat) : Int)) := h.row.of_block (hb.block d hlt)
  refine ⟨⟨hb.os.trans h.grow.os, hb.tape.trans h.grow.tape, hb.output.trans h.grow.output, ?_, fun k hk hne => ?_⟩, ?_⟩
  · have h1 := h.grow.size
    have h2 := hb.size
    simp [World.setCell]
    omega
  · have h1 := h.grow.size
    rw [Below.heap_setCell _ _ _ _ (fun e => hne (by rw [e])), hb.block k (by omega)]
    exact h.grow.block k hk hne
  · refine (hr1.set j _).congr fun t _ => ?_
    by_cases e : t = j
    · subst e; simp
    · simp only [if_neg e]
      by_cases ht : t < j
      · rw [if_pos ht, if_pos (by omega)]
      · rw [if_neg ht, if_neg (by omega)]

theorem UInv.cell {w0 wr : World} {d m j : Nat} {V : Nat → Nat} (h : UInv w0 d m V j wr) {a : Addr} {v : Value} (ha : w0.cell? a = some v) (hne : a.block ≠ d) : wr.cell? a = some v := by
  rw [World.cell?_of_block (w := w0) (h.grow.block a.block (lt_of_cell ha) (fun e => hne (by injection e)))]; exact ha

theorem UInv.start {w : World} {d m : Nat} {V : Nat → Nat} (o : Obj) (h : w.rowIs d 23 m (fun _ => .int .u32 0)) : UInv (w.alloc o) d m V 0 (w.alloc o) :=
  ⟨World.grownBy.refl _ _, (h.alloc o).congr fun t _ => by simp⟩

theorem UInv.fin {w wr : World} {d m : Nat} {V : Nat → Nat} {o : Obj} (h : UInv (w.alloc o) d m V m wr) : w.grownBy wr (some d) ∧ wr.rowIs d 23 m (fun t => .int .u32 ((V t : Nat) : Int)) := by
  refine ⟨⟨h.grow.os, h.grow.tape, h.grow.output, ?_, fun k hk hne => ?_⟩, h.row.congr fun t ht => by rw [if_pos ht]⟩
  · have := h.grow.size
    simp at this
    omega
  · rw [h.grow.block k (by simp; omega) hne]
    exact Below.heap_alloc w o k hk

theorem box_cell (w : World) (a : Option Addr) (len cap k o : Nat) : (w.alloc (rbox a len cap k)).cell? ⟨w.heap.size, o, none⟩ = (#[.slice a len cap, .int .u64 (k : Nat), .int .u64 ((2 ^ k - 1 : Nat) : Int)] : Array Value)[o]? := World.cell?_alloc_new _ _ _ _

set_option maxRecDepth 20000 in
set_option maxHeartbeats 2000000 in
theorem unpack_some (g len k start m d : Nat) (z : Nat → Nat) (w : World) (hlen : len ≤ 4096) (hc0 : ∀ i, i < len → w.cell? ⟨g, 0 + i, none⟩ = some (.int .u8 (z i))) (hz : ∀ i, z i < 256) (hk1 : 1 ≤ k) (hk : k ≤ 32) (hm : m ≤ 40) (hst : start ≤ 32768)
    (hidx : ∀ j, j < m → (start + j) * k ≤ 8 * len) (hidx0 : start * k ≤ 8 * len) (hne : g ≠ d) (hgw : g < w.heap.size) (hrow : w.rowIs d 23 m (fun _ => .int .u32 0)) :
    Calls Yba.prog 10 #[rdr (some ⟨g, 0, none⟩) len len k, .slice (some ⟨d, 0, none⟩) m m, .int .i64 start] w fun e w' => e = .returned (.tuple #[]) ∧ w.grownBy w' (some d) ∧ w'.rowIs d 23 m (fun t => .int .u32 ((modelN (pad z len) ((start + t) * k) k : Nat) : Int)) := by
  have hdlt := hrow.lt
  have hdne : d ≠ w.heap.size := by omega
  have hgz : ∀ {j : Nat} {V : Nat → Nat} {o : Obj} {wz : World}, UInv (w.alloc o) d m V j wz → g < wz.heap.size := fun h => by
    have := h.grow.size
    simp at this
    omega
  obtain ⟨p0, hp0⟩ : ∃ p0, start * k = p0 := ⟨_, rfl⟩
  have hp0i : (start : Int) * (k : Int) = (p0 : Int) := by rw [← hp0, Int.natCast_mul]
  have Hp0 : Hid (start * k = p0) := hp0
  have hp0le : p0 ≤ 40000 := by omega
  clear hp0 hidx0
  have Hidx : Hid (∀ j, j < m → (start + j) * k ≤ 8 * len) := hidx
  clear hidx
  go_enter Yba.func10, Yba.ntmps10
  go_wp2_with fail
  go_loopw [6, 7] (fun bb jj wr => ∃ j p : Nat, j ≤ m ∧ jj = .int .i64 j ∧ bb = .int .u64 (p : Int) ∧ Hid ((start + j) * k = p) ∧ p ≤ 40000 ∧ UInv (w.alloc (rbox (some ⟨g, 0, none⟩) len len k)) d m (fun t => modelN (pad z len) ((start + t) * k) k) j wr) (fun _ jj _ => m - (intOf jj).toNat)
  case atStart => exact ⟨0, p0, by omega, rfl, rfl, Hp0.out, hp0le, UInv.start _ hrow⟩
  case round =>
    obtain ⟨j, p, hj, rfl, rfl, Hp, hp4, hI⟩ := hrel
    have hb0 : wr.cell? ⟨w.heap.size, 0, none⟩ = some (.slice (some ⟨g, 0, none⟩) len len) := hI.cell (box_cell w _ len len k 0) (fun e => hdne e.symm)
    have hb1 : wr.cell? ⟨w.heap.size, 1, none⟩ = some (.int .u64 (k : Nat)) := hI.cell (box_cell w _ len len k 1) (fun e => hdne e.symm)
    have hb2 : wr.cell? ⟨w.heap.size, 2, none⟩ = some (.int .u64 ((2 ^ k - 1 : Nat) : Int)) := hI.cell (box_cell w _ len len k 2) (fun e => hdne e.symm)
    obtain ⟨q, hq⟩ : ∃ q : Nat, (p : Int) / 8 = (q : Int) := ⟨p / 8, by omega⟩
    obtain ⟨r, hr⟩ : ∃ r : Nat, (p : Int) % 8 = (r : Int) := ⟨p % 8, by omega⟩
    by_cases hgo : j < m ∧ q + 8 ≤ len
    · obtain ⟨hjm, hfast⟩ := hgo
      have hq1 : (q : Int) ≤ (len : Int) := by omega
      have hq0 : (0 : Int) ≤ (q : Int) := by omega
      have hcq : ¬ len = q := by omega
      have hr8 : r < 8 := by omega
      have hrt : (p : Int).tmod 8 = (r : Int) := by rw [Int.tmod_eq_emod_of_nonneg (by omega)]; exact hr
      have hjm1 : (j : Int) < (m : Int) := by omega
      have hqt : (p : Int).tdiv 8 = (q : Int) := by rw [Int.tdiv_eq_ediv_of_nonneg (by omega)]; exact hq
      have hqw : IntKind.u64.wrap (q : Int) = (q : Int) := by rw [IntKind.wrap_u64]; omega
      have hz' : ∀ t, z (q + t) < 256 := fun t => hz _
      have HF : Hid (IntKind.u32.wrap (bits BinOp.and IntKind.u64 (((le (fun t => z (q + t)) 0 8 : Nat) : Int) / 2 ^ r) ((2 ^ k - 1 : Nat) : Int)) = ((modelN (pad z len) p k : Nat) : Int)) :=
        get_fin z (fun t => z (q + t)) len q r p k hz hz' (fun t ht => by unfold pad; rw [if_pos (by omega)]) hr8 hk (by omega)
      have hcs : ∀ t, t < 8 → wr.cell? ⟨g, q + t, none⟩ = some (.int .u8 (z (q + t))) := fun t ht => by
        have := hI.cell (cell_new _ (hc0 (q + t) (by omega))) hne
        rw [Nat.zero_add] at this; exact this
      have hcd : ∀ o n, ((wr.alloc o).drewN n).cell? ⟨d, j, none⟩ = some (.int .u32 0) := fun o n => by
        have := (hI.row.alloc o).cell hjm
        rw [if_neg (by omega)] at this; exact this
      have hfd : ∀ o n, ((wr.alloc o).drewN n).frozen? ⟨d, j, none⟩ = false := fun o n => (hI.row.alloc o).frozen j
      go_wp2_with fail
      go_region_held3 (fun w' => w'.cell? ⟨w.heap.size, 0, none⟩ = some (.slice (some ⟨g, 0, none⟩) len len) ∧ w'.cell? ⟨w.heap.size, 2, none⟩ = some (.int .u64 ((2 ^ k - 1 : Nat) : Int))) (go_keep)
        (first | (go_at_call 11; refine (uint64_any g q (len - q) (len - q) (fun t => z (q + t)) _ (by omega) hz' (fun t ht => by exact hcs t ht)).mono ?_; rintro e w1 ⟨rfl, n1, rfl⟩))
      have hpl : p ≤ 8 * len := by have := Hidx.out j hjm; rw [Hp.out] at this; exact this
      have hS := hI.step (w1 := (wr.alloc (.cells #[] 37)).drewN (1 + n1)) (below_drewN ((Below.refl _ _).alloc (Nat.le_refl _) _) _)
      have hS' : UInv (w.alloc (rbox (some ⟨g, 0, none⟩) len len k)) d m (fun t => modelN (pad z len) ((start + t) * k) k) (j + 1) (((wr.alloc (.cells #[] 37)).drewN (1 + n1)).setCell ⟨d, j, none⟩ (.int .u32 (IntKind.u32.wrap (bits BinOp.and IntKind.u64 (((le (fun t => z (q + t)) 0 8 : Nat) : Int) / 2 ^ r) ((2 ^ k - 1 : Nat) : Int))))) := by
        rw [HF.out, ← Hp.out]; exact hS
      generalize ((wr.alloc (.cells #[] 37)).drewN (1 + n1)).setCell ⟨d, j, none⟩ (.int .u32 (IntKind.u32.wrap (bits BinOp.and IntKind.u64 (((le (fun t => z (q + t)) 0 8 : Nat) : Int) / 2 ^ r) ((2 ^ k - 1 : Nat) : Int)))) = wn at hS' ⊢
      have hb1' : wn.cell? ⟨w.heap.size, 1, none⟩ = some (.int .u64 (k : Nat)) := hS'.cell (box_cell w _ len len k 1) (fun e => hdne e.symm)
      clear hS hcd hfd hcs
      have Hp1 : Hid ((start + (j + 1)) * k = p + k) := by
        have := Hp.out
        show (start + (j + 1)) * k = p + k
        rw [← this, ← Nat.add_assoc, Nat.succ_mul]
      go_wp2_with fail
      go_roundw
      case rel => exact ⟨j + 1, p + k, by omega, by go_num, by go_num, Hp1.out, by omega, hS'⟩
      case measure => simp [intOf]; omega
    · have hstop : (j < m ∧ ¬ q + 8 ≤ len) ∨ ¬ j < m := by omega
      clear hgo
      rcases hstop with ⟨h1, h2⟩ | h1
      all_goals
        go_wp2_with fail
        clear hb0 hb1 hb2
        go_loopw [7] (fun jj wr2 => ∃ j2 : Nat, j2 ≤ m ∧ jj = .int .i64 j2 ∧ UInv (w.alloc (rbox (some ⟨g, 0, none⟩) len len k)) d m (fun t => modelN (pad z len) ((start + t) * k) k) j2 wr2) (fun jj _ => m - (intOf jj).toNat)
        case atStart => exact ⟨j, hj, rfl, hI⟩
        case round =>
          clear hI
          obtain ⟨j2, hj2, rfl, hI2⟩ := hrel
          rename World => wz
          by_cases hlt2 : j2 < m
          · have hb0 : wz.cell? ⟨w.heap.size, 0, none⟩ = some (.slice (some ⟨g, 0, none⟩) len len) := hI2.cell (box_cell w _ len len k 0) (fun e => hdne e.symm)
            have hb1 : wz.cell? ⟨w.heap.size, 1, none⟩ = some (.int .u64 (k : Nat)) := hI2.cell (box_cell w _ len len k 1) (fun e => hdne e.symm)
            have hb2 : wz.cell? ⟨w.heap.size, 2, none⟩ = some (.int .u64 ((2 ^ k - 1 : Nat) : Int)) := hI2.cell (box_cell w _ len len k 2) (fun e => hdne e.symm)
            obtain ⟨ii, hii⟩ : ∃ ii : Nat, start + j2 = ii := ⟨_, rfl⟩
            have hiI : (start : Int) + (j2 : Int) = (ii : Int) := by omega
            have Hii : Hid (start + j2 = ii) := hii
            have hii4 : ii ≤ 40000 := by omega
            clear hii
            go_wp2_with fail
            refine (get_any (some ⟨g, 0, none⟩) len len k ii ((start + j2) * k) z wz hlen (.inr ⟨g, rfl, rfl, hgz hI2, fun i hi => hI2.cell (cell_new _ (hc0 i hi)) hne⟩) hz hk hii4 (by rw [Hii.out]) (Hidx.out j2 hlt2)).mono ?_
            rintro e w4 ⟨rfl, hb4⟩
            have hcd4 : w4.cell? ⟨d, j2, none⟩ = some (.int .u32 0) := by
              have h := hI2.row.cell hlt2
              rw [if_neg (by omega)] at h
              rw [hb4.cell hI2.row.lt]; exact h
            have hfd4 : w4.frozen? ⟨d, j2, none⟩ = false := by rw [hb4.frozen hI2.row.lt]; exact hI2.row.frozen j2
            have hS := hI2.step hb4
            clear hb0 hb1 hb2
            go_wp2_with fail
            go_roundw
            case rel => exact ⟨j2 + 1, by omega, by go_num, hS⟩
            case measure => simp [intOf]; omega
          · obtain rfl : j2 = m := by omega
            go_wp2_with fail
            go_end0
            exact ⟨rfl, hI2.fin⟩

set_option maxRecDepth 20000 in
set_option maxHeartbeats 2000000 in
theorem unpack_nil (k start m d : Nat) (z : Nat → Nat) (w : World) (hz : ∀ i, z i < 256) (hk1 : 1 ≤ k) (hk : k ≤ 32) (hm : m ≤ 40) (hst : start ≤ 32768)
    (hidx : ∀ j, j < m → (start + j) * k ≤ 8 * 0) (hidx0 : start * k ≤ 8 * 0) (hrow : w.rowIs d 23 m (fun _ => .int .u32 0)) :
    Calls Yba.prog 10 #[rdr none 0 0 k, .slice (some ⟨d, 0, none⟩) m m, .int .i64 start] w fun e w' => e = .returned (.tuple #[]) ∧ w.grownBy w' (some d) ∧ w'.rowIs d 23 m (fun t => .int .u32 ((modelN (pad z 0) ((start + t) * k) k : Nat) : Int)) := by
  have hdlt := hrow.lt
  have hdne : d ≠ w.heap.size := by omega
  obtain ⟨p0, hp0⟩ : ∃ p0, start * k = p0 := ⟨_, rfl⟩
  have hp0i : (start : Int) * (k : Int) = (p0 : Int) := by rw [← hp0, Int.natCast_mul]
  have Hp0 : Hid (start * k = p0) := hp0
  have hp0le : p0 ≤ 40000 := by omega
  clear hp0 hidx0
  have Hidx : Hid (∀ j, j < m → (start + j) * k ≤ 8 * 0) := hidx
  clear hidx
  go_enter Yba.func10, Yba.ntmps10
  go_wp2_with fail
  go_loopw [6, 7] (fun bb jj wr => ∃ j p : Nat, j ≤ m ∧ jj = .int .i64 j ∧ bb = .int .u64 (p : Int) ∧ Hid ((start + j) * k = p) ∧ p ≤ 40000 ∧ UInv (w.alloc (rbox none 0 0 k)) d m (fun t => modelN (pad z 0) ((start + t) * k) k) j wr) (fun _ jj _ => m - (intOf jj).toNat)
  case atStart => exact ⟨0, p0, by omega, rfl, rfl, Hp0.out, hp0le, UInv.start _ hrow⟩
  case round =>
    obtain ⟨j, p, hj, rfl, rfl, Hp, hp4, hI⟩ := hrel
    have hb0 : wr.cell? ⟨w.heap.size, 0, none⟩ = some (.slice none 0 0) := hI.cell (box_cell w _ 0 0 k 0) (fun e => hdne e.symm)
    have hb1 : wr.cell? ⟨w.heap.size, 1, none⟩ = some (.int .u64 (k : Nat)) := hI.cell (box_cell w _ 0 0 k 1) (fun e => hdne e.symm)
    have hb2 : wr.cell? ⟨w.heap.size, 2, none⟩ = some (.int .u64 ((2 ^ k - 1 : Nat) : Int)) := hI.cell (box_cell w _ 0 0 k 2) (fun e => hdne e.symm)
    obtain ⟨q, hq⟩ : ∃ q : Nat, (p : Int) / 8 = (q : Int) := ⟨p / 8, by omega⟩
    obtain ⟨r, hr⟩ : ∃ r : Nat, (p : Int) % 8 = (r : Int) := ⟨p % 8, by omega⟩
    have hneg : decide ((q : Int) + 8 ≤ 0) = false := by simp; omega
    by_cases h1 : j < m
    all_goals
      go_wp2_with fail
      clear hb0 hb1 hb2
      go_loopw [7] (fun jj wr2 => ∃ j2 : Nat, j2 ≤ m ∧ jj = .int .i64 j2 ∧ UInv (w.alloc (rbox none 0 0 k)) d m (fun t => modelN (pad z 0) ((start + t) * k) k) j2 wr2) (fun jj _ => m - (intOf jj).toNat)
      case atStart => exact ⟨j, hj, rfl, hI⟩
      case round =>
        clear hI
        obtain ⟨j2, hj2, rfl, hI2⟩ := hrel
        rename World => wz
        by_cases hlt2 : j2 < m
        · have hb0 : wz.cell? ⟨w.heap.size, 0, none⟩ = some (.slice none 0 0) := hI2.cell (box_cell w _ 0 0 k 0) (fun e => hdne e.symm)
          have hb1 : wz.cell? ⟨w.heap.size, 1, none⟩ = some (.int .u64 (k : Nat)) := hI2.cell (box_cell w _ 0 0 k 1) (fun e => hdne e.symm)
          have hb2 : wz.cell? ⟨w.heap.size, 2, none⟩ = some (.int .u64 ((2 ^ k - 1 : Nat) : Int)) := hI2.cell (box_cell w _ 0 0 k 2) (fun e => hdne e.symm)
          obtain ⟨ii, hii⟩ : ∃ ii : Nat, start + j2 = ii := ⟨_, rfl⟩
          have hiI : (start : Int) + (j2 : Int) = (ii : Int) := by omega
          have Hii : Hid (start + j2 = ii) := hii
          have hii4 : ii ≤ 40000 := by omega
          clear hii
          go_wp2_with fail
          refine (get_any none 0 0 k ii ((start + j2) * k) z wz (by omega) (.inl ⟨rfl, rfl, rfl⟩) hz hk hii4 (by rw [Hii.out]) (Hidx.out j2 hlt2)).mono ?_
          rintro e w4 ⟨rfl, hb4⟩
          have hcd4 : w4.cell? ⟨d, j2, none⟩ = some (.int .u32 0) := by
            have h := hI2.row.cell hlt2
            rw [if_neg (by omega)] at h
            rw [hb4.cell hI2.row.lt]; exact h
          have hfd4 : w4.frozen? ⟨d, j2, none⟩ = false := by rw [hb4.frozen hI2.row.lt]; exact hI2.row.frozen j2
          have hS := hI2.step hb4
          clear hb0 hb1 hb2
          go_wp2_with fail
          go_roundw
          case rel => exact ⟨j2 + 1, by omega, by go_num, hS⟩
          case measure => simp [intOf]; omega
        · obtain rfl : j2 = m := by omega
          go_wp2_with fail
          go_end0
          exact ⟨rfl, hI2.fin⟩

theorem unpack_any (a : Option Addr) (len cap k start m d : Nat) (z : Nat → Nat) (w : World) (hlen : len ≤ 4096) (ho : Own w a len cap z) (hz : ∀ i, z i < 256) (hk1 : 1 ≤ k) (hk : k ≤ 32) (hm : m ≤ 40) (hst : start ≤ 32768)
    (hidx : ∀ j, j < m → (start + j) * k ≤ 8 * len) (hidx0 : start * k ≤ 8 * len) (hne : ∀ g, a = some ⟨g, 0, none⟩ → g ≠ d) (hrow : w.rowIs d 23 m (fun _ => .int .u32 0)) :
    Calls Yba.prog 10 #[rdr a len cap k, .slice (some ⟨d, 0, none⟩) m m, .int .i64 start] w fun e w' => e = .returned (.tuple #[]) ∧ w.grownBy w' (some d) ∧ w'.rowIs d 23 m (fun t => .int .u32 ((modelN (pad z len) ((start + t) * k) k : Nat) : Int)) := by
  rcases ho with ⟨rfl, rfl, rfl⟩ | ⟨g, rfl, rfl, hg, hc⟩
  · exact unpack_nil k start m d z w hz hk1 hk hm hst hidx hidx0 hrow
  · exact unpack_some g cap k start m d z w hlen hc hz hk1 hk hm hst hidx hidx0 (hne g rfl) hg hrow
end Go.Proofs.Ybulkbkbs
