/- The contract of zzs3041bmodel. -/
import Derived.Test.YbulkbjymDoorUv
import Derived.Deep.QuietTactic
import Derived.BigQuiet
namespace Go.Proofs.YbulkbjymDoor
open Go.RowKit
set_option linter.unusedVariables false

/-- The bytes are a good state ask: the varint ends at place t, it is an int, one byte that is 0 or 1 follows, and no more. -/
structure Good (z : Nat → Int) (len t : Nat) : Prop where
  term : Term z t
  size : len = t + 2
  int : val z t ≤ 9223372036854775807
  bit : z (t + 1) ≤ 1

set_option maxHeartbeats 400000 in
theorem model_ok (b off cap t : Nat) (z : Nat → Int) (w : World) (hcap : t + 2 ≤ cap) (hcell : ∀ i, i < t + 2 → w.cell? ⟨b, off + i, none⟩ = some (.int .u8 (z i))) (hz : ∀ i, 0 ≤ z i ∧ z i ≤ 255)
    (hT : Term z t) (hint : val z t ≤ 9223372036854775807) (hval : 0 ≤ val z t) (hbit : z (t + 1) ≤ 1) :
    Calls Ybad.prog 7 #[.slice (some ⟨b, off, none⟩) (t + 2) cap] w fun e w' => e = .returned (.tuple #[.int .i64 (val z t), .bool (z (t + 1) == 1), .bool true]) ∧ ∃ n, w' = w.drewN n := by
  obtain ⟨hbig, hsm, hfit⟩ := hT
  go_enter Ybad.func7, Ybad.ntmps7
  go_wp2
  go_loop [5, 6, 7, 8] (fun v s i d => ∃ (k : Nat), k ≤ t ∧ i = .int .i64 k ∧ s = .int .u64 (7 * (k : Int)) ∧ v = .int .u64 (accTo z k) ∧ d = .bool false) (fun _ _ i _ => t - (intOf i).toNat)
  case atStart => exact ⟨0, Nat.zero_le _, rfl, rfl, rfl, rfl⟩
  case round =>
    obtain ⟨k, hk, rfl, rfl, rfl, rfl⟩ := hrel
    have hck := hcell k (by omega)
    have hzk := hz k
    have hk9 : k ≤ 9 := by omega
    by_cases hlt : k < t
    · have h1 := hbig k hlt
      clear hfit hbig
      go_wp2
      go_round
      case rel => exact ⟨k + 1, by omega, by go_num, by go_num, by rw [accTo_succ], rfl⟩
      case measure => simp [intOf]; omega
    · obtain rfl : k = t := by omega
      clear hbig
      have hc1 := hcell (k + 1) (by omega)
      have hz1 := hz (k + 1)
      have hint' : bits BinOp.or IntKind.u64 (accTo z k) (IntKind.u64.wrap (z k * 2 ^ (7 * k))) ≤ 9223372036854775807 := hint
      have hval' : 0 ≤ bits BinOp.or IntKind.u64 (accTo z k) (IntKind.u64.wrap (z k * 2 ^ (7 * k))) := hval
      rcases hfit with h8 | ⟨h9, h1⟩
      · have h9 : ((k : Int) + 1 == 10) = false := by simp; omega
        go_wp2
        go_quiet (fail)
        go_wp2
        go_ret3
        exact ⟨rfl, _, rfl⟩
      · have h9' : ((k : Int) + 1 == 10) = true := by simp; omega
        clear h9
        go_wp2
        go_quiet (fail)
        go_wp2
        go_ret3
        exact ⟨rfl, _, rfl⟩

/-- The model says no. -/
abbrev modelNo : Ending := .returned (.tuple #[.int .i64 0, .bool false, .bool false])

set_option maxHeartbeats 400000 in
theorem model_empty (a : Option Addr) (cap : Nat) (w : World) : Calls Ybad.prog 7 #[.slice a 0 cap] w fun e w' => e = modelNo ∧ w' = w := by
  go_enter Ybad.func7, Ybad.ntmps7
  go_wp2
  go_loop [5, 6, 7, 8] (fun v s i d => i = .int .i64 0 ∧ d = .bool false) (fun _ _ _ _ => 0)
  case atStart => exact ⟨rfl, rfl⟩
  case round =>
    obtain ⟨rfl, rfl⟩ := hrel
    go_wp2
    go_ret3
    exact ⟨rfl, rfl⟩

set_option maxHeartbeats 400000 in
/-- No varint within 64 bits ends in the bytes. -/
theorem model_none (b off len cap : Nat) (z : Nat → Int) (w : World) (hlen : len ≤ 4611686018427387904) (hcell : ∀ i, i < len → w.cell? ⟨b, off + i, none⟩ = some (.int .u8 (z i))) (hz : ∀ i, 0 ≤ z i ∧ z i ≤ 255)
    (hno : ∀ t, t < len → ¬ Term z t) : Calls Ybad.prog 7 #[.slice (some ⟨b, off, none⟩) len cap] w fun e w' => e = modelNo ∧ w' = w := by
  go_enter Ybad.func7, Ybad.ntmps7
  go_wp2
  go_loop [5, 6, 7, 8] (fun v s i d => ∃ (k : Nat), k ≤ len ∧ k ≤ 10 ∧ (∀ j, j < k → 128 ≤ z j) ∧ i = .int .i64 k ∧ s = .int .u64 (7 * (k : Int)) ∧ v = .int .u64 (accTo z k) ∧ d = .bool false) (fun _ _ i _ => 10 - (intOf i).toNat)
  case atStart => exact ⟨0, Nat.zero_le _, by omega, fun j hj => by omega, rfl, rfl, rfl, rfl⟩
  case round =>
    obtain ⟨k, hk, hk10, hbig, rfl, rfl, rfl, rfl⟩ := hrel
    by_cases h10 : k < 10
    · by_cases hlt : k < len
      · have hck := hcell k hlt
        have hzk := hz k
        by_cases hsm : z k < 128
        · have h9 : k = 9 := by
            rcases Nat.lt_or_ge k 9 with h | h
            · exact absurd ⟨hbig, hsm, .inl (by omega)⟩ (hno k hlt)
            · omega
          have h1 : 1 < z k := by
            rcases Int.lt_or_le 1 (z k) with h | h
            · exact h
            · exact absurd ⟨hbig, hsm, .inr ⟨h9, h⟩⟩ (hno k hlt)
          have h9' : ((k : Int) + 1 == 10) = true := by simp; omega
          clear h9 hbig hno
          go_wp2
          go_ret3
          exact ⟨rfl, rfl⟩
        · have hge : 128 ≤ z k := by omega
          clear hno
          have Hbig : Hid (∀ j, j < k → 128 ≤ z j) := hbig
          clear hbig
          go_wp2
          go_round
          case rel =>
            refine ⟨k + 1, by omega, by omega, fun j hj => ?_, by go_num, by go_num, by rw [accTo_succ], rfl⟩
            rcases Nat.lt_or_ge j k with h | h
            · exact Hbig.out j h
            · rw [show j = k from by omega]; exact hge
          case measure => simp [intOf]; omega
      · clear hbig hno
        go_wp2
        go_ret3
        exact ⟨rfl, rfl⟩
    · obtain rfl : k = 10 := by omega
      clear hbig hno
      have hd : decide ((10 : Int) < 10) = false := by decide
      go_wp2
      go_ret3
      exact ⟨rfl, rfl⟩

set_option maxHeartbeats 400000 in
/-- The varint ends at place t, but what it says, or what follows it, is not let by. -/
theorem model_no (b off len cap t : Nat) (z : Nat → Int) (w : World) (hlen : len ≤ 4611686018427387904) (hcap : len ≤ cap) (hcell : ∀ i, i < len → w.cell? ⟨b, off + i, none⟩ = some (.int .u8 (z i))) (hz : ∀ i, 0 ≤ z i ∧ z i ≤ 255)
    (ht : t < len) (hT : Term z t) (hbad : 9223372036854775807 < val z t ∨ (val z t ≤ 9223372036854775807 ∧ len ≠ t + 2) ∨ (val z t ≤ 9223372036854775807 ∧ len = t + 2 ∧ 1 < z (t + 1))) :
    Calls Ybad.prog 7 #[.slice (some ⟨b, off, none⟩) len cap] w fun e w' => e = modelNo ∧ w' = w := by
  obtain ⟨hbig, hsm, hfit⟩ := hT
  go_enter Ybad.func7, Ybad.ntmps7
  go_wp2
  go_loop [5, 6, 7, 8] (fun v s i d => ∃ (k : Nat), k ≤ t ∧ i = .int .i64 k ∧ s = .int .u64 (7 * (k : Int)) ∧ v = .int .u64 (accTo z k) ∧ d = .bool false) (fun _ _ i _ => t - (intOf i).toNat)
  case atStart => exact ⟨0, Nat.zero_le _, rfl, rfl, rfl, rfl⟩
  case round =>
    obtain ⟨k, hk, rfl, rfl, rfl, rfl⟩ := hrel
    have hck := hcell k (by omega)
    have hzk := hz k
    have hk9 : k ≤ 9 := by omega
    by_cases hlt : k < t
    · have h1 := hbig k hlt
      clear hfit hbig hbad
      go_wp2
      go_round
      case rel => exact ⟨k + 1, by omega, by go_num, by go_num, by rw [accTo_succ], rfl⟩
      case measure => simp [intOf]; omega
    · obtain rfl : k = t := by omega
      clear hbig
      have hz1 := hz (k + 1)
      have hten : ((k : Int) + 1 == 10) = false ∨ (((k : Int) + 1 == 10) = true ∧ z k ≤ 1) := by
        rcases hfit with h8 | ⟨h9, h1⟩
        · exact .inl (by simp; omega)
        · exact .inr ⟨by simp; omega, h1⟩
      clear hfit
      rcases hbad with h | ⟨h, h2⟩ | ⟨h, h2, h3⟩
      · have hint' : 9223372036854775807 < bits BinOp.or IntKind.u64 (accTo z k) (IntKind.u64.wrap (z k * 2 ^ (7 * k))) := h
        clear h
        rcases hten with h9 | ⟨h9, h1⟩
        all_goals
          go_wp2
          go_ret3
          exact ⟨rfl, rfl⟩
      · have hint' : bits BinOp.or IntKind.u64 (accTo z k) (IntKind.u64.wrap (z k * 2 ^ (7 * k))) ≤ 9223372036854775807 := h
        have h2' : ((((len - (k + 1) : Nat) : Int)) != 1) = true := by simp; omega
        clear h h2
        rcases hten with h9 | ⟨h9, h1⟩
        all_goals
          go_wp2
          all_goals
            go_ret3
            exact ⟨rfl, rfl⟩
      · have hint' : bits BinOp.or IntKind.u64 (accTo z k) (IntKind.u64.wrap (z k * 2 ^ (7 * k))) ≤ 9223372036854775807 := h
        subst h2
        have hc1 := hcell (k + 1) (by omega)
        clear h
        rcases hten with h9 | ⟨h9, h1⟩
        all_goals
          go_wp2
          go_ret3
          exact ⟨rfl, rfl⟩
end Go.Proofs.YbulkbjymDoor
