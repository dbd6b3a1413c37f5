/- The contracts of zzs3047bmodel, zzs3047bsame and NewReader. -/
import Derived.Test.YbulkbkbsClone
namespace Go.Proofs.Ybulkbkbs
open Go.RowKit
set_option linter.unusedVariables false

set_option maxHeartbeats 1000000 in
theorem same_some (b1 o1 c1 b2 o2 c2 len : Nat) (z : Nat → Nat) (w : World) (hlen : len ≤ 4096) (h1 : ∀ i, i < len → w.cell? ⟨b1, o1 + i, none⟩ = some (.int .u8 (z i))) (h2 : ∀ i, i < len → w.cell? ⟨b2, o2 + i, none⟩ = some (.int .u8 (z i))) :
    Calls Yba.prog 9 #[.slice (some ⟨b1, o1, none⟩) len c1, .slice (some ⟨b2, o2, none⟩) len c2] w fun e w' => e = .returned (.bool true) ∧ ∃ n, w' = w.drewN n := by
  go_enter Yba.func9, Yba.ntmps9
  go_wp2
  go_loopw [5] (fun i wr => ∃ k n : Nat, k ≤ len ∧ i = .int .i64 k ∧ wr = w.drewN n) (fun i _ => len - (intOf i).toNat)
  case atStart => exact ⟨0, 0, by omega, rfl, rfl⟩
  case round =>
    obtain ⟨k, n, hk, rfl, rfl⟩ := hrel
    by_cases hlt : k < len
    · have e1 := h1 k hlt
      have e2 := h2 k hlt
      go_wp2
      go_quiet (fail)
      go_wp2
      go_roundw
      case rel => exact ⟨k + 1, _, by omega, by go_num, rfl⟩
      case measure => simp [intOf]; omega
    · go_wp2
      go_ret
      exact ⟨rfl, _, rfl⟩

theorem same_empty (a1 a2 : Option Addr) (c1 c2 : Nat) (w : World) : Calls Yba.prog 9 #[.slice a1 0 c1, .slice a2 0 c2] w fun e w' => e = .returned (.bool true) ∧ ∃ n, w' = w.drewN n := by
  go_enter Yba.func9, Yba.ntmps9
  go_wp2
  go_loop [5] (fun i => i = .int .i64 0) (fun _ => 0)
  case atStart => rfl
  case round =>
    subst hrel
    go_wp2
    go_ret
    exact ⟨rfl, 0, rfl⟩

theorem same_any (a1 a2 : Option Addr) (c1 c2 len : Nat) (z : Nat → Nat) (w : World) (hlen : len ≤ 4096) (h1 : Row w a1 len c1 z) (h2 : Row w a2 len c2 z) :
    Calls Yba.prog 9 #[.slice a1 len c1, .slice a2 len c2] w fun e w' => e = .returned (.bool true) ∧ ∃ n, w' = w.drewN n := by
  by_cases h0 : len = 0
  · subst h0; exact same_empty a1 a2 c1 c2 w
  · rcases h1 with ⟨h, _⟩ | ⟨b1, o1, rfl, h1⟩
    · exact absurd h h0
    · rcases h2 with ⟨h, _⟩ | ⟨b2, o2, rfl, h2⟩
      · exact absurd h h0
      · exact same_some b1 o1 c1 b2 o2 c2 len z w hlen h1 h2

/-- The bytes, noughts behind the end. -/
def pad (z : Nat → Nat) (len i : Nat) : Nat := if i < len then z i else 0

theorem bit_eq (n r : Nat) (hn : n < 256) : (bits BinOp.and IntKind.u8 ((n : Int) / 2 ^ r) 1 == 1) = n.testBit r := by
  have e : ((n : Int) / 2 ^ r) = ((n / 2 ^ r : Nat) : Int) := by simp
  have hle : n / 2 ^ r < 256 := Nat.lt_of_le_of_lt (Nat.div_le_self _ _) hn
  have h1 : bits BinOp.and IntKind.u8 ((n / 2 ^ r : Nat) : Int) 1 = ((n / 2 ^ r &&& 1 : Nat) : Int) := u8_and_nat (n / 2 ^ r) 1 hle (by omega)
  rw [e, h1, Nat.and_one_is_mod, Nat.testBit_eq_decide_div_mod_eq]
  rw [Bool.eq_iff_iff]
  simp
  omega
theorem or_bit (v m : Nat) (hv : v < 4294967296) (hm : m < 32) : bits BinOp.or IntKind.u32 (v : Int) (2 ^ m % 4294967296) = ((v ||| 2 ^ m : Nat) : Int) := by
  have hlt : 2 ^ m < 4294967296 := by
    have : 2 ^ m < 2 ^ 32 := Nat.pow_lt_pow_right (by omega) hm
    omega
  have e : ((2 : Int) ^ m % 4294967296) = ((2 ^ m : Nat) : Int) := by
    have : ((2 : Int) ^ m) = ((2 ^ m : Nat) : Int) := by simp
    rw [this]
    generalize 2 ^ m = y at hlt
    omega
  rw [e]
  exact u32_or_nat v (2 ^ m) hv hlt
theorem modelN_yes (z : Nat → Nat) (p m : Nat) (h : (z ((p + m) / 8)).testBit ((p + m) % 8) = true) : modelN z p (m + 1) = modelN z p m ||| 2 ^ m := by
  rw [modelN]; simp [h]
theorem modelN_no (z : Nat → Nat) (p m : Nat) (h : (z ((p + m) / 8)).testBit ((p + m) % 8) = false) : modelN z p (m + 1) = modelN z p m := by
  rw [modelN]; simp [h]
theorem modelN_u32 (z : Nat → Nat) (p k : Nat) (hk : k ≤ 32) : modelN z p k < 4294967296 := by
  have h1 := modelN_lt z p k
  have h2 : 2 ^ k ≤ 2 ^ 32 := Nat.pow_le_pow_right (by omega) hk
  omega

set_option maxHeartbeats 1000000 in
theorem model_some (b off len cap k i p : Nat) (z : Nat → Nat) (w : World) (hlen : len ≤ 4096) (hc : ∀ i, i < len → w.cell? ⟨b, off + i, none⟩ = some (.int .u8 (z i))) (hz : ∀ i, z i < 256) (hk : k ≤ 32) (hp : (i : Int) * (k : Int) = (p : Int)) (hp2 : p ≤ 40000) :
    Calls Yba.prog 8 #[.slice (some ⟨b, off, none⟩) len cap, .int .i64 k, .int .i64 i] w fun e w' => e = .returned (.int .u32 (modelN (pad z len) p k : Nat)) ∧ w' = w := by
  go_enter Yba.func8, Yba.ntmps8
  go_wp2
  go_loop [7, 9] (fun v j => ∃ m : Nat, m ≤ k ∧ j = .int .i64 m ∧ v = .int .u32 (modelN (pad z len) p m : Nat)) (fun _ j => k - (intOf j).toNat)
  case atStart => exact ⟨0, by omega, rfl, rfl⟩
  case round =>
    obtain ⟨m, hm, rfl, rfl⟩ := hrel
    by_cases hlt : m < k
    · by_cases hin : (p + m) / 8 < len
      · have hcm := hc ((p + m) / 8) hin
        have hzm := hz ((p + m) / 8)
        have hbit := bit_eq (z ((p + m) / 8)) ((p + m) % 8) hzm
        have hpad : pad z len ((p + m) / 8) = z ((p + m) / 8) := by unfold pad; rw [if_pos hin]
        cases ht : (z ((p + m) / 8)).testBit ((p + m) % 8)
        · have HN : Hid (modelN (pad z len) p (m + 1) = modelN (pad z len) p m) := modelN_no _ _ _ (by rw [hpad]; exact ht)
          have hb : (bits BinOp.and IntKind.u8 (↑(z ((p + m) / 8)) / 2 ^ ((p + m) % 8)) 1 == 1) = false := hbit.trans ht
          clear hbit hpad ht
          go_wp2
          go_round
          case rel => exact ⟨m + 1, by omega, by go_num, by rw [HN.out]⟩
          case measure => simp [intOf]; omega
        · have HN : Hid (modelN (pad z len) p (m + 1) = modelN (pad z len) p m ||| 2 ^ m) := modelN_yes _ _ _ (by rw [hpad]; exact ht)
          have HO : Hid (bits BinOp.or IntKind.u32 (↑(modelN (pad z len) p m)) (2 ^ m % 4294967296) = ((modelN (pad z len) p m ||| 2 ^ m : Nat) : Int)) := or_bit _ _ (modelN_u32 _ _ _ (by omega)) (by omega)
          have hb : (bits BinOp.and IntKind.u8 (↑(z ((p + m) / 8)) / 2 ^ ((p + m) % 8)) 1 == 1) = true := hbit.trans ht
          clear hbit hpad ht
          go_wp2
          go_round
          case rel => exact ⟨m + 1, by omega, by go_num, by rw [HN.out, HO.out]⟩
          case measure => simp [intOf]; omega
      · have HN : Hid (modelN (pad z len) p (m + 1) = modelN (pad z len) p m) := modelN_no _ _ _ (by unfold pad; rw [if_neg hin]; simp)
        go_wp2
        go_round
        case rel => exact ⟨m + 1, by omega, by go_num, by rw [HN.out]⟩
        case measure => simp [intOf]; omega
    · obtain rfl : m = k := by omega
      go_wp2
      go_ret
      exact ⟨rfl, rfl⟩

set_option maxHeartbeats 1000000 in
theorem model_empty (a : Option Addr) (cap k i p : Nat) (z : Nat → Nat) (w : World) (hk : k ≤ 32) (hp : (i : Int) * (k : Int) = (p : Int)) (hp2 : p ≤ 40000) :
    Calls Yba.prog 8 #[.slice a 0 cap, .int .i64 k, .int .i64 i] w fun e w' => e = .returned (.int .u32 (modelN (pad z 0) p k : Nat)) ∧ w' = w := by
  go_enter Yba.func8, Yba.ntmps8
  go_wp2
  go_loop [7, 9] (fun v j => ∃ m : Nat, m ≤ k ∧ j = .int .i64 m ∧ v = .int .u32 (modelN (pad z 0) p m : Nat)) (fun _ j => k - (intOf j).toNat)
  case atStart => exact ⟨0, by omega, rfl, rfl⟩
  case round =>
    obtain ⟨m, hm, rfl, rfl⟩ := hrel
    by_cases hlt : m < k
    · have HN : Hid (modelN (pad z 0) p (m + 1) = modelN (pad z 0) p m) := modelN_no _ _ _ (by unfold pad; rw [if_neg (by omega)]; simp)
      have hge : decide (((p : Int) + (m : Int)) / 8 < 0) = false := by simp; omega
      go_wp2
      go_round
      case rel => exact ⟨m + 1, by omega, by go_num, by rw [HN.out]⟩
      case measure => simp [intOf]; omega
    · obtain rfl : m = k := by omega
      go_wp2
      go_ret
      exact ⟨rfl, rfl⟩

theorem model_any (a : Option Addr) (len cap k i p : Nat) (z : Nat → Nat) (w : World) (hlen : len ≤ 4096) (hr : Row w a len cap z) (hz : ∀ i, z i < 256) (hk : k ≤ 32) (hp : i * k = p) (hp2 : p ≤ 40000) :
    Calls Yba.prog 8 #[.slice a len cap, .int .i64 k, .int .i64 i] w fun e w' => e = .returned (.int .u32 (modelN (pad z len) p k : Nat)) ∧ w' = w := by
  have hpi : (i : Int) * (k : Int) = (p : Int) := by rw [← hp, Int.natCast_mul]
  rcases hr with ⟨rfl, _⟩ | ⟨b, off, rfl, hc⟩
  · exact model_empty a cap k i p z w hk hpi hp2
  · exact model_some b off len cap k i p z w hlen hc hz hk hpi hp2
end Go.Proofs.Ybulkbkbs
