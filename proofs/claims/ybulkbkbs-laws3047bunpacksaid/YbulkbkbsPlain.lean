/- The plain law of seat b3047a: bytes as a stream of bits. No Go in sight. -/
namespace Go.Proofs.Ybulkbkbs

/-- n bytes from place b on as one number, the least byte first. -/
def le (z : Nat → Nat) : Nat → Nat → Nat
  | _, 0 => 0
  | b, n + 1 => z b + 256 * le z (b + 1) n

theorem le_testBit (z : Nat → Nat) (hz : ∀ i, z i < 256) : ∀ n b k, (le z b n).testBit k = (decide (k < 8 * n) && (z (b + k / 8)).testBit (k % 8))
  | 0, b, k => by simp [le]
  | n + 1, b, k => by
    have h := Nat.testBit_two_pow_mul_add (i := 8) (le z (b + 1) n) (show z b < 2 ^ 8 from hz b) k
    have e : le z b (n + 1) = 2 ^ 8 * le z (b + 1) n + z b := by simp [le]; omega
    rw [e, h]
    by_cases hk : k < 8
    · rw [if_pos hk]
      have e1 : k / 8 = 0 := by omega
      have e2 : k % 8 = k := by omega
      rw [e1, e2]
      simp [show k < 8 * (n + 1) from by omega]
    · rw [if_neg hk, le_testBit z hz n (b + 1) (k - 8)]
      have e1 : b + 1 + (k - 8) / 8 = b + k / 8 := by omega
      have e2 : (k - 8) % 8 = k % 8 := by omega
      have e3 : decide (k - 8 < 8 * n) = decide (k < 8 * (n + 1)) := by
        congr 1; apply propext; omega
      rw [e1, e2, e3]

theorem le8 (z : Nat → Nat) (b : Nat) : le z b 8 = z b + z (b + 1) * 256 + z (b + 2) * 65536 + z (b + 3) * 16777216 + z (b + 4) * 4294967296 + z (b + 5) * 1099511627776 + z (b + 6) * 281474976710656 + z (b + 7) * 72057594037927936 := by
  simp [le, Nat.add_assoc]; omega

/-- The bits of the value, one by one. -/
def modelN (z : Nat → Nat) (p : Nat) : Nat → Nat
  | 0 => 0
  | k + 1 => if (z ((p + k) / 8)).testBit ((p + k) % 8) then modelN z p k ||| 2 ^ k else modelN z p k

theorem modelN_testBit (z : Nat → Nat) (p : Nat) : ∀ k j, (modelN z p k).testBit j = (decide (j < k) && (z ((p + j) / 8)).testBit ((p + j) % 8))
  | 0, j => by simp [modelN]
  | k + 1, j => by
    have ih := modelN_testBit z p k j
    unfold modelN
    by_cases hjk : j = k
    · subst hjk
      split
      · rename_i h
        rw [Nat.testBit_or, ih, Nat.testBit_two_pow_self, h]
        simp
      · rename_i h
        rw [ih]
        simp at h
        simp [h]
    · have e : decide (j < k + 1) = decide (j < k) := by
        congr 1; apply propext; omega
      split
      · rw [Nat.testBit_or, ih, Nat.testBit_two_pow_of_ne (by omega), e]
        simp
      · rw [ih, e]

theorem modelN_lt (z : Nat → Nat) (p k : Nat) : modelN z p k < 2 ^ k := by
  apply Nat.lt_pow_two_of_testBit
  intro i hi
  rw [modelN_testBit]
  simp [show ¬ i < k from by omega]

/-- What Get reckons is what the model reckons. -/
theorem get_is_model (z : Nat → Nat) (hz : ∀ i, z i < 256) (q r k : Nat) (hr : r < 8) (hk : k ≤ 32) : le z q 8 / 2 ^ r % 2 ^ k = modelN z (8 * q + r) k := by
  apply Nat.eq_of_testBit_eq
  intro j
  rw [modelN_testBit, Nat.testBit_mod_two_pow, Nat.testBit_div_two_pow, le_testBit z hz]
  by_cases hj : j < k
  · have e1 : (8 * q + r + j) / 8 = q + (j + r) / 8 := by omega
    have e2 : (8 * q + r + j) % 8 = (j + r) % 8 := by omega
    rw [e1, e2]
    simp [show j + r < 64 from by omega, hj]
  · simp [hj]
end Go.Proofs.Ybulkbkbs
