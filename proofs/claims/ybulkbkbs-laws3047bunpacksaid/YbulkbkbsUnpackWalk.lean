/- The walk of LawS3047BUnpack. -/
import Derived.Test.YbulkbkbsUnpack
namespace Go.Proofs.Ybulkbkbs
open Go.RowKit
set_option linter.unusedVariables false

theorem info23 : (Yba.prog.info? 23).map (fun i => (i.zero, i.size, i.bytes)) = some (some (.int .u32 0), 1, 4) := by kernel_rfl

/-- One world is the other but for draws. -/
def Dr (w w' : World) : Prop := ∃ q, w' = w.drewN q
theorem Dr.refl (w : World) : Dr w w := ⟨0, rfl⟩
theorem Dr.drewN {w w' : World} (h : Dr w w') (n : Nat) : Dr w (w'.drewN n) := by
  obtain ⟨q, rfl⟩ := h
  exact ⟨q + n, World.drewN_drewN _ _ _⟩
theorem Dr.cell {w w' : World} (h : Dr w w') (a : Addr) : w'.cell? a = w.cell? a := by obtain ⟨q, rfl⟩ := h; rfl
theorem Dr.row {w w' : World} {a : Option Addr} {len cap : Nat} {z : Nat → Nat} (h : Dr w w') (hr : Row w a len cap z) : Row w' a len cap z := by obtain ⟨q, rfl⟩ := h; exact hr
theorem Dr.below {B : Nat} {w0 w w' : World} (h : Dr w w') (hb : Below B w0 w) : Below B w0 w' := by obtain ⟨q, rfl⟩ := h; exact below_drewN hb q

set_option maxRecDepth 20000 in
set_option maxHeartbeats 2000000 in
theorem unpack_walk (a : Option Addr) (len cap : Nat) (z : Nat → Nat) (x y n : Int) (w : World) (hlen9 : len ≤ 9223372036854775807) (hr : Row w a len cap z) (hz : ∀ i, z i < 256) (hx0 : 0 ≤ x) (hx : x ≤ 255) (hy0 : 0 ≤ y) (hy : y ≤ 4294967295) (hn0 : 0 ≤ n) (hn : n ≤ 255) :
    Calls Yba.prog 4 #[.slice a len cap, .int .u8 x, .int .u32 y, .int .u8 n] w fun e w' => e = .returned (.bool true) ∧ Below w.heap.size w w' := by
  by_cases hbig : 4096 < len
  · have hd : decide ((4096 : Int) < (len : Int)) = true := by simp; omega
    go_enter Yba.func4, Yba.ntmps4
    go_wp2_with fail
    go_ret
    exact ⟨rfl, Below.refl _ _⟩
  · have hd : decide ((4096 : Int) < (len : Int)) = false := by simp; omega
    have hlen : len ≤ 4096 := by omega
    clear hlen9 hbig
    obtain ⟨k, hk, hk1, hk32⟩ : ∃ k : Nat, x % 32 + 1 = (k : Int) ∧ 1 ≤ k ∧ k ≤ 32 := ⟨(x % 32 + 1).toNat, by omega, by omega, by omega⟩
    obtain ⟨c, hcq, hcu, hck⟩ := count_of len k hk1 hlen
    obtain ⟨start, hiq, hic⟩ := rem_of y c hy0
    obtain ⟨m0, hm0, hm40⟩ : ∃ m0 : Nat, n % 40 = (m0 : Int) ∧ m0 < 40 := ⟨(n % 40).toNat, by omega, by omega⟩
    obtain ⟨lim, hlim⟩ : ∃ lim : Nat, (c : Int) + 1 - (start : Int) = (lim : Int) := ⟨c + 1 - start, by omega⟩
    have hlim2 : start + lim = c + 1 := by omega
    have Hlim : Hid (start + lim = c + 1) := hlim2
    have hidx : ∀ j, start + j ≤ c → (start + j) * k ≤ 8 * len := fun j hj => index_of (start + j) c k len hj hck
    have hidx0 : start * k ≤ 8 * len := index_of start c k len hic hck
    have Hidx : Hid (∀ j, start + j ≤ c → (start + j) * k ≤ 8 * len) := hidx
    have Hidx0 : Hid (start * k ≤ 8 * len) := hidx0
    clear hck hlim2 hidx hidx0
    have hcase : ∃ m : Nat, m < 40 ∧ Hid (m ≤ lim) ∧ ((lim < m0 ∧ m = lim) ∨ (¬ lim < m0 ∧ m = m0)) := by
      by_cases h : lim < m0
      · exact ⟨lim, by omega, Nat.le_refl _, .inl ⟨h, rfl⟩⟩
      · exact ⟨m0, by omega, (by omega : m0 ≤ lim), .inr ⟨h, rfl⟩⟩
    obtain ⟨m, hm, HmL, hway⟩ := hcase
    have HB : Hid (∀ j, j < m → (start + j) * k ≤ 8 * len) := fun j hj => Hidx.out j (by have h1 := Hlim.out; have h2 := HmL.out; omega)
    clear Hidx Hlim HmL
    have hmk := run_make_row' (P := Yba.prog) 33 23 (.int .u32 0) 4 Yba.underlying33 info23 rfl .i64 .i64 m (by omega) (by omega)
    rcases hway with ⟨hb, hmm⟩ | ⟨hb, hmm⟩
    all_goals
      subst hmm
      go_enter Yba.func4, Yba.ntmps4
      go_wp2_with fail
      refine (clone_any a len cap z w hlen hr).mono ?_
      rintro e w1 ⟨a1, cap1, rfl, hown1, hb1⟩
      go_wp2_with fail
      refine (newReader_any a1 len cap1 k w1 hk32).mono ?_
      rintro e w2 ⟨rfl, hb2⟩
      go_wp2_with fail
      have hs1 := hb1.size
      have hs2 := hb2.size
      have hW : Below w1.heap.size w1 ((w2.alloc (rbox a1 len cap1 k)).alloc (.cells (madeCells #[.int .u32 0] m) 23)) := (hb2.alloc hs2 _).alloc (by simp; omega) _
      have hrow : ((w2.alloc (rbox a1 len cap1 k)).alloc (.cells (madeCells #[.int .u32 0] m) 23)).rowIs (w2.heap.size + 1) 23 m (fun _ => .int .u32 0) := by
        have h := World.rowIs_made (w2.alloc (rbox a1 len cap1 k)) (.int .u32 0) m 23
        simp only [World.size_alloc] at h
        exact h
      have hneq : ∀ g, a1 = some ⟨g, 0, none⟩ → g ≠ w2.heap.size + 1 := by
        intro g hg
        rcases hown1 with ⟨h, _⟩ | ⟨g', h, _, hl, _⟩
        · rw [h] at hg; cases hg
        · rw [h] at hg; injection hg with hg; injection hg with hg; omega
      refine (unpack_any a1 len cap1 k start m (w2.heap.size + 1) z _ hlen (hown1.below hW) hz hk1 hk32 (by omega) (by omega) HB.out Hidx0.out hneq hrow).mono ?_
      rintro e w4 ⟨rfl, hg4, hrow4⟩
      have hb14 : Below w1.heap.size w1 w4 := hW.grown hg4 hW.size (fun q hq => by cases hq; omega)
      have hb04 : Below w.heap.size w w4 := hb1.trans (hb14.mono hs1)
      have hR4 := row_below hr hb04
      have hO4 := (hown1.below hb14).row
      clear hg4 hW hneq hrow hmk hown1 hr
      go_wp2_with fail
      go_loopw [16] (fun jj wr => ∃ j : Nat, j ≤ m ∧ jj = .int .i64 j ∧ Dr w4 wr) (fun jj _ => m - (intOf jj).toNat)
      case atStart => exact ⟨0, by omega, rfl, Dr.refl _⟩
      case round =>
        obtain ⟨j, hj, rfl, hD⟩ := hrel
        have hRr := hD.row hR4
        by_cases hlt : j < m
        · have hcj := (hD.cell _).trans (hrow4.cell hlt)
          obtain ⟨ii, hii⟩ : ∃ ii : Nat, start + j = ii := ⟨_, rfl⟩
          have hiI : (start : Int) + (j : Int) = (ii : Int) := by omega
          have Hii : Hid (ii * k = (start + j) * k) := by show ii * k = (start + j) * k; rw [hii]
          have hpl : (start + j) * k ≤ 40000 := by have := HB.out j hlt; omega
          have hjm1 : (j : Int) < (m : Int) := by omega
          have hwii : IntKind.i64.wrap (ii : Int) = (ii : Int) := by rw [IntKind.wrap_i64]; omega
          clear hii
          go_wp2_with fail
          go_quiet ((go_at_call 8; exact Calls.quiet_of_same (model_any a len cap k ii ((start + j) * k) z _ hlen (by exact hRr) hz hk32 Hii.out hpl)))
          go_wp2_with fail
          go_roundw
          case rel => exact ⟨j + 1, by omega, by go_num, hD.drewN _⟩
          case measure => simp [intOf]; omega
        · go_wp2_with fail
          refine (same_any a1 a cap1 cap len z wr hlen (hD.row hO4) hRr).mono ?_
          rintro e w6 ⟨rfl, q2, rfl⟩
          go_wp2_with fail
          go_ret
          exact ⟨rfl, below_drewN (hD.below hb04) _⟩
end Go.Proofs.Ybulkbkbs
