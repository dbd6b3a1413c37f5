/- The walk of LawS3047BGet. -/
import Derived.Test.YbulkbkbsGet
namespace Go.Proofs.Ybulkbkbs
open Go.RowKit
set_option linter.unusedVariables false

/-- How many values there are, less one. -/
theorem count_of (len k : Nat) (hk : 1 ≤ k) (hlen : len ≤ 4096) : ∃ c : Nat, (len : Int) * 8 / (k : Int) = (c : Int) ∧ c ≤ 32768 ∧ c * k ≤ 8 * len := by
  refine ⟨len * 8 / k, by simp, ?_, ?_⟩
  · have := Nat.div_le_self (len * 8) k
    omega
  · have := Nat.div_mul_le_self (len * 8) k
    omega
theorem rem_of (y : Int) (c : Nat) (hy : 0 ≤ y) : ∃ i : Nat, y % ((c : Int) + 1) = (i : Int) ∧ i ≤ c := by
  have h1 := Int.emod_nonneg y (show ((c : Int) + 1) ≠ 0 by omega)
  have h2 := Int.emod_lt_of_pos y (show (0 : Int) < (c : Int) + 1 by omega)
  exact ⟨(y % ((c : Int) + 1)).toNat, by omega, by omega⟩
theorem index_of (i c k len : Nat) (hic : i ≤ c) (hck : c * k ≤ 8 * len) : i * k ≤ 8 * len := Nat.le_trans (Nat.mul_le_mul_right k hic) hck

set_option maxRecDepth 20000 in
set_option maxHeartbeats 1000000 in
theorem get_walk (a : Option Addr) (len cap : Nat) (z : Nat → Nat) (x y : Int) (w : World) (hlen9 : len ≤ 9223372036854775807) (hr : Row w a len cap z) (hz : ∀ i, z i < 256) (hx0 : 0 ≤ x) (hx : x ≤ 255) (hy0 : 0 ≤ y) (hy : y ≤ 4294967295) :
    Calls Yba.prog 3 #[.slice a len cap, .int .u8 x, .int .u32 y] w fun e w' => e = .returned (.bool true) ∧ Below w.heap.size w w' := by
  by_cases hbig : 4096 < len
  · have hd : decide ((4096 : Int) < (len : Int)) = true := by simp; omega
    go_enter Yba.func3, Yba.ntmps3
    go_wp2_with fail
    go_ret
    exact ⟨rfl, Below.refl _ _⟩
  · have hd : decide ((4096 : Int) < (len : Int)) = false := by simp; omega
    have hlen : len ≤ 4096 := by omega
    clear hlen9 hbig
    obtain ⟨k, hk, hk1, hk32⟩ : ∃ k : Nat, x % 32 + 1 = (k : Int) ∧ 1 ≤ k ∧ k ≤ 32 := ⟨(x % 32 + 1).toNat, by omega, by omega, by omega⟩
    obtain ⟨c, hcq, hcu, hck⟩ := count_of len k hk1 hlen
    obtain ⟨i, hiq, hic⟩ := rem_of y c hy0
    have hik : i * k ≤ 8 * len := index_of i c k len hic hck
    obtain ⟨p, hp⟩ : ∃ p, i * k = p := ⟨_, rfl⟩
    have Hp : Hid (i * k = p) := hp
    have hp8 : p ≤ 8 * len := by omega
    clear hp hik hck
    go_enter Yba.func3, Yba.ntmps3
    go_wp2_with fail
    refine (clone_any a len cap z w hlen hr).mono ?_
    rintro e w1 ⟨a1, cap1, rfl, hown1, hb1⟩
    go_wp2_with fail
    refine (newReader_any a1 len cap1 k w1 hk32).mono ?_
    rintro e w2 ⟨rfl, hb2⟩
    go_wp2_with fail
    have hs1 := hb1.size
    have hs2 := hb2.size
    have hb3 : Below w1.heap.size w1 (w2.alloc (rbox a1 len cap1 k)) := hb2.alloc hs2 _
    refine (get_any a1 len cap1 k i p z (w2.alloc (rbox a1 len cap1 k)) hlen (hown1.below hb3) hz hk32 (by omega) Hp.out hp8).mono ?_
    rintro e w4 ⟨rfl, hb4⟩
    have hs4 := hb4.size
    have hb14 : Below w1.heap.size w1 w4 := hb3.trans (hb4.mono hb3.size)
    have hb04 : Below w.heap.size w w4 := hb1.trans (hb14.mono hs1)
    go_wp2_with fail
    refine (model_any a len cap k i p z w4 hlen (row_below hr hb04) hz hk32 Hp.out (by omega)).mono ?_
    rintro e w5 ⟨rfl, hw5⟩
    obtain rfl : w4 = w5 := hw5.symm
    go_wp2_with fail
    refine (same_any a1 a cap1 cap len z w4 hlen (hown1.below hb14).row (row_below hr hb04)).mono ?_
    rintro e w6 ⟨rfl, n, rfl⟩
    go_wp2_with fail
    go_ret
    exact ⟨rfl, below_drewN hb04 n⟩
end Go.Proofs.Ybulkbkbs
