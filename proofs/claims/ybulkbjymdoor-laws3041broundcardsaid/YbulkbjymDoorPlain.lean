/- The plain law: what put writes, Uvarint reads. -/
import Derived.Test.YbulkbjymDoorPut
import Derived.Laws.Bits64
import Derived.Laws.BitsAllLaws
namespace Go.Proofs.YbulkbjymDoor
set_option linter.unusedVariables false

theorem encTo_length (v : Int) : ∀ t, (encTo v t).length = t
  | 0 => rfl
  | t + 1 => by rw [encTo_succ]; simp [encTo_length v t]
theorem encTo_get (v : Int) : ∀ t j, j < t → (encTo v t)[j]? = some (hib (rest v j))
  | 0, j, h => by omega
  | t + 1, j, h => by
    rw [encTo_succ]
    rcases Nat.lt_or_ge j t with h1 | h1
    · rw [List.getElem?_append_left (by rw [encTo_length]; exact h1)]
      exact encTo_get v t j h1
    · have e : j = t := by omega
      subst e
      rw [List.getElem?_append_right (by rw [encTo_length]; exact Nat.le_refl _)]
      simp [encTo_length]

theorem rest_nat (n : Nat) : ∀ k, rest (n : Int) k = ((n / 128 ^ k : Nat) : Int)
  | 0 => by simp [rest]
  | k + 1 => by
    rw [rest_succ, rest_nat n k, Nat.pow_succ, ← Nat.div_div_eq_div_mul]
    omega

theorem hib_nat (m : Nat) : hib (m : Int) = ((m % 256 ||| 128 : Nat) : Int) := by
  unfold hib
  have e : ((m : Int) % 256) = ((m % 256 : Nat) : Int) := by omega
  rw [e]
  exact u8_or_nat (m % 256) 128 (by omega) (by omega)

theorem low7 : ∀ a : Fin 256, (a.val ||| 128) &&& 127 = a.val % 128 := by decide +kernel
theorem high1 : ∀ a : Fin 256, 128 ≤ (a.val ||| 128) ∧ (a.val ||| 128) < 256 := by decide +kernel

theorem hib_bounds (m : Nat) : 128 ≤ hib (m : Int) ∧ hib (m : Int) ≤ 255 := by
  rw [hib_nat]
  have := high1 ⟨m % 256, by omega⟩
  simp only at this
  omega

theorem hib_and (m : Nat) : bits BinOp.and IntKind.u8 (hib (m : Int)) 127 = ((m % 128 : Nat) : Int) := by
  rw [hib_nat]
  have h1 := high1 ⟨m % 256, by omega⟩
  have h2 := low7 ⟨m % 256, by omega⟩
  simp only at h1 h2
  have := u8_and_nat (m % 256 ||| 128) 127 h1.2 (by omega)
  rw [h2] at this
  rw [show (m % 128 : Nat) = m % 256 % 128 from by omega]
  exact this

theorem wrap_u64_nat (n : Nat) (h : n < 18446744073709551616) : IntKind.u64.wrap (n : Int) = (n : Int) := by
  rw [IntKind.wrap_u64]; omega

/-- Two numbers that share no bit. -/
theorem or_apart (a c k : Nat) (ha : a < 2 ^ k) : a ||| c * 2 ^ k = a + c * 2 ^ k := by
  have := Nat.shiftLeft_add_eq_or_of_lt ha c
  rw [Nat.shiftLeft_eq] at this
  rw [Nat.or_comm, ← this]; omega

theorem pow128 (k : Nat) : 128 ^ k = 2 ^ (7 * k) := by rw [Nat.pow_mul]

theorem pow_cast (k : Nat) : (2 : Int) ^ (7 * k) = ((2 ^ (7 * k) : Nat) : Int) := by simp

theorem le_pow63 (k : Nat) (hk : k ≤ 9) : 128 ^ k ≤ 9223372036854775808 := by
  have : 128 ^ k ≤ 128 ^ 9 := Nat.pow_le_pow_right (by omega) hk
  omega

theorem acc_nat (n t : Nat) (z : Nat → Int) (ht : t ≤ 9) (hz : ∀ j, j < t → z j = hib (rest (n : Int) j)) : ∀ k, k ≤ t → accTo z k = ((n % 128 ^ k : Nat) : Int)
  | 0, _ => by simp [accTo_zero, Nat.mod_one]
  | k + 1, hk => by
    have ih := acc_nat n t z ht hz k (by omega)
    have h8 : k ≤ 8 := by omega
    rw [accTo_succ, ih, hz k (by omega), rest_nat, hib_and]
    have hp : 128 ^ k ≤ 72057594037927936 := by
      have : 128 ^ k ≤ 128 ^ 8 := Nat.pow_le_pow_right (by omega) h8
      omega
    have hpos : 0 < 128 ^ k := Nat.pow_pos (by omega)
    have hm := Nat.mod_lt n hpos
    have hc : n / 128 ^ k % 128 < 128 := Nat.mod_lt _ (by omega)
    generalize hcE : n / 128 ^ k % 128 = c at hc
    rw [wrap_u64_nat c (by omega), pow_cast, ← pow128, ← Int.natCast_mul]
    have hcb : c * 128 ^ k ≤ 127 * 72057594037927936 := Nat.mul_le_mul (by omega) hp
    rw [wrap_u64_nat _ (by omega), u64_or_nat _ _ (by omega) (by omega)]
    rw [Nat.mod_pow_succ, hcE]
    have ho := or_apart (n % 128 ^ k) c (7 * k) (by rw [← pow128]; exact hm)
    rw [← pow128] at ho
    rw [ho, Nat.mul_comm c]

theorem val_nat (n t : Nat) (z : Nat → Int) (ht : t ≤ 9) (hn : n < 18446744073709551616) (hz : ∀ j, j < t → z j = hib (rest (n : Int) j)) (hzt : z t = rest (n : Int) t) : val z t = (n : Int) := by
  unfold val
  rw [acc_nat n t z ht hz t (Nat.le_refl _), hzt, rest_nat, pow_cast, ← pow128, ← Int.natCast_mul]
  have hpos : 0 < 128 ^ t := Nat.pow_pos (by omega)
  have hm := Nat.mod_lt n hpos
  have hd := Nat.div_add_mod n (128 ^ t)
  have hle : n / 128 ^ t * 128 ^ t ≤ n := Nat.div_mul_le_self _ _
  rw [wrap_u64_nat _ (by omega), u64_or_nat _ _ (by omega) (by omega)]
  have ho := or_apart (n % 128 ^ t) (n / 128 ^ t) (7 * t) (by rw [← pow128]; exact hm)
  rw [← pow128] at ho
  rw [ho, Nat.mul_comm (n / 128 ^ t)]
  congr 1
  omega

/-- What was put reads back: the varint ends at place t, and its value is v. -/
theorem put_reads (v : Int) (t : Nat) (L : List Int) (tail : List Int) (h0 : 0 ≤ v) (hv : v ≤ 18446744073709551615) (hbig : ∀ j, j < t → 128 ≤ rest v j) (hsm : rest v t < 128) (ht : t ≤ 9) (hL : L = encTo v t ++ rest v t :: tail) :
    Term (fun i => L.getD i 0) t ∧ val (fun i => L.getD i 0) t = v := by
  obtain ⟨n, rfl⟩ := Int.eq_ofNat_of_zero_le h0
  have hz : ∀ j, j < t → L.getD j 0 = hib (rest (n : Int) j) := fun j hj => by
    rw [hL, List.getD_eq_getElem?_getD, List.getElem?_append_left (by rw [encTo_length]; exact hj), encTo_get _ _ _ hj]; rfl
  have hzt : L.getD t 0 = rest (n : Int) t := by
    rw [hL, List.getD_eq_getElem?_getD, List.getElem?_append_right (by rw [encTo_length]; exact Nat.le_refl _), encTo_length]
    simp
  refine ⟨⟨fun j hj => ?_, ?_, ?_⟩, val_nat n t _ ht (by omega) hz hzt⟩
  · show 128 ≤ L.getD j 0
    rw [hz j hj, rest_nat]
    exact (hib_bounds _).1
  · show L.getD t 0 < 128
    rw [hzt]; exact hsm
  · by_cases h9 : t = 9
    · right
      refine ⟨h9, ?_⟩
      show L.getD t 0 ≤ 1
      rw [hzt, h9]; exact rest_nine _ (by omega) hv
    · left; omega

end Go.Proofs.YbulkbjymDoor
