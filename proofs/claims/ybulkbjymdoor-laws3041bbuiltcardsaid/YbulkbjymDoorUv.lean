/- The contract of encoding/binary.Uvarint: in the walk's own forms. -/
import Derived.Test.YbulkbjymDoorChecked
import Derived.WalkKit
import Derived.WalkSpells
import Derived.WalkLawsBesides
namespace Go.Proofs.YbulkbjymDoor
open Go.RowKit
set_option linter.unusedVariables false

/-- One more byte with its high bit set, at place k. -/
def step (v b : Int) (k : Nat) : Int := bits BinOp.or IntKind.u64 v (IntKind.u64.wrap (IntKind.u64.wrap (bits BinOp.and IntKind.u8 b 127) * 2 ^ (7 * k)))
/-- What k bytes with their high bit set come to. -/
def accTo (z : Nat → Int) : Nat → Int
  | 0 => 0
  | k + 1 => step (accTo z k) (z k) k
/-- .. and a last byte at place t. -/
def val (z : Nat → Int) (t : Nat) : Int := bits BinOp.or IntKind.u64 (accTo z t) (IntKind.u64.wrap (z t * 2 ^ (7 * t)))

/-- The varint ends at place t, and it is within 64 bits. -/
structure Term (z : Nat → Int) (t : Nat) : Prop where
  big : ∀ j, j < t → 128 ≤ z j
  small : z t < 128
  fits : t ≤ 8 ∨ (t = 9 ∧ z t ≤ 1)

/-- What a slice of bytes holds: nothing, or the bytes z. -/
def Row (w : World) (a : Option Addr) (len cap : Nat) (z : Nat → Int) : Prop :=
  (len = 0 ∧ (a.isNone = true → cap = 0)) ∨ ∃ b off, a = some ⟨b, off, none⟩ ∧ ∀ i, i < len → w.cell? ⟨b, off + i, none⟩ = some (.int .u8 (z i))

theorem accTo_zero (z : Nat → Int) : accTo z 0 = 0 := rfl
theorem accTo_succ (z : Nat → Int) (k : Nat) : accTo z (k + 1) = bits BinOp.or IntKind.u64 (accTo z k) (IntKind.u64.wrap (IntKind.u64.wrap (bits BinOp.and IntKind.u8 (z k) 127) * 2 ^ (7 * k))) := rfl

set_option maxHeartbeats 400000 in
theorem uv_ok (b off len cap t : Nat) (z : Nat → Int) (w : World) (hlen : len ≤ 4611686018427387904) (hcell : ∀ i, i < len → w.cell? ⟨b, off + i, none⟩ = some (.int .u8 (z i))) (hz : ∀ i, 0 ≤ z i ∧ z i ≤ 255)
    (ht : t < len) (hT : Term z t) :
    Calls Ybad.prog 16 #[.slice (some ⟨b, off, none⟩) len cap] w fun e w' => e = .returned (.tuple #[.int .u64 (val z t), .int .i64 ((t : Int) + 1)]) ∧ w' = w := by
  obtain ⟨hbig, hsm, hfit⟩ := hT
  go_enter Ybad.func16, Ybad.ntmps16
  go_wp2
  go_loop [4, 5, 10] (fun x s i => ∃ (k : Nat), k ≤ t ∧ i = .int .i64 k ∧ s = .int .u64 (7 * (k : Int)) ∧ x = .int .u64 (accTo z k)) (fun _ _ i => t - (intOf i).toNat)
  case atStart => exact ⟨0, Nat.zero_le _, rfl, rfl, rfl⟩
  case round =>
    obtain ⟨k, hk, rfl, rfl, rfl⟩ := hrel
    have hck := hcell k (by omega)
    have hzk := hz k
    have hk9 : k ≤ 9 := by omega
    by_cases hlt : k < t
    · have h1 := hbig k hlt
      clear hfit hbig
      go_wp2
      go_round
      case rel => exact ⟨k + 1, by omega, by go_num, by go_num, by rw [accTo_succ]⟩
      case measure => simp [intOf]; omega
    · obtain rfl : k = t := by omega
      clear hbig
      rcases hfit with h8 | ⟨h9, h1⟩
      · have h9 : ((k : Int) == 9) = false := by simp; omega
        go_wp2
        go_ret2
        exact ⟨rfl, rfl⟩
      · have H9 : Hid (k = 9) := h9
        have h9' : ((k : Int) == 9) = true := by simp; omega
        clear h9
        go_wp2
        go_ret2
        exact ⟨rfl, rfl⟩

/-- Uvarint says no. -/
def UvBad (w : World) (e : Ending) (w' : World) : Prop := ∃ n : Int, (n = 0 ∨ n = -10 ∨ n = -11) ∧ e = .returned (.tuple #[.int .u64 0, .int .i64 n]) ∧ w' = w

set_option maxHeartbeats 400000 in
theorem uv_empty (a : Option Addr) (cap : Nat) (w : World) : Calls Ybad.prog 16 #[.slice a 0 cap] w (UvBad w) := by
  go_enter Ybad.func16, Ybad.ntmps16
  go_wp2
  go_loop [10] (fun i => i = .int .i64 0) (fun _ => 0)
  case atStart => rfl
  case round =>
    subst hrel
    go_wp2
    go_ret2
    exact ⟨0, .inl rfl, rfl, rfl⟩

set_option maxHeartbeats 400000 in
theorem uv_bad_some (b off len cap : Nat) (z : Nat → Int) (w : World) (hlen : len ≤ 4611686018427387904) (hcell : ∀ i, i < len → w.cell? ⟨b, off + i, none⟩ = some (.int .u8 (z i))) (hz : ∀ i, 0 ≤ z i ∧ z i ≤ 255)
    (hno : ∀ t, t < len → ¬ Term z t) : Calls Ybad.prog 16 #[.slice (some ⟨b, off, none⟩) len cap] w (UvBad w) := by
  go_enter Ybad.func16, Ybad.ntmps16
  go_wp2
  go_loop [4, 5, 10] (fun x s i => ∃ (k : Nat), k ≤ len ∧ k ≤ 10 ∧ (∀ j, j < k → 128 ≤ z j) ∧ i = .int .i64 k ∧ s = .int .u64 (7 * (k : Int)) ∧ x = .int .u64 (accTo z k)) (fun _ _ i => 11 - (intOf i).toNat)
  case atStart => exact ⟨0, Nat.zero_le _, by omega, fun j hj => by omega, rfl, rfl, rfl⟩
  case round =>
    obtain ⟨k, hk, hk10, hbig, rfl, rfl, rfl⟩ := hrel
    by_cases hlt : k < len
    · have hck := hcell k hlt
      have hzk := hz k
      by_cases h10 : k < 10
      · have h10' : ((k : Int) == 10) = false := by simp; omega
        by_cases hsm : z k < 128
        · have h9 : k = 9 := by
            rcases Nat.lt_or_ge k 9 with h | h
            · exact absurd ⟨hbig, hsm, .inl (by omega)⟩ (hno k hlt)
            · omega
          have h1 : 1 < z k := by
            rcases Int.lt_or_le 1 (z k) with h | h
            · exact h
            · exact absurd ⟨hbig, hsm, .inr ⟨h9, h⟩⟩ (hno k hlt)
          have h9' : ((k : Int) == 9) = true := by simp; omega
          have H9 : Hid (k = 9) := h9
          clear h9 hbig hno
          go_wp2
          go_ret2
          refine ⟨-10, .inr (.inl rfl), ?_, rfl⟩
          have h9 := H9.out
          subst h9
          rfl
        · have hge : 128 ≤ z k := by omega
          clear hno
          have Hbig : Hid (∀ j, j < k → 128 ≤ z j) := hbig
          clear hbig
          go_wp2
          go_round
          case rel =>
            refine ⟨k + 1, by omega, by omega, fun j hj => ?_, by go_num, by go_num, by rw [accTo_succ]⟩
            rcases Nat.lt_or_ge j k with h | h
            · exact Hbig.out j h
            · rw [show j = k from by omega]; exact hge
          case measure => simp [intOf]; omega
      · obtain rfl : k = 10 := by omega
        clear hbig hno
        go_wp2
        go_ret2
        exact ⟨-11, .inr (.inr rfl), rfl, rfl⟩
    · clear hbig hno
      go_wp2
      go_ret2
      exact ⟨0, .inl rfl, rfl, rfl⟩

theorem uv_bad (a : Option Addr) (len cap : Nat) (z : Nat → Int) (w : World) (hlen : len ≤ 4611686018427387904) (hr : Row w a len cap z) (hz : ∀ i, 0 ≤ z i ∧ z i ≤ 255) (hno : ∀ t, t < len → ¬ Term z t) :
    Calls Ybad.prog 16 #[.slice a len cap] w (UvBad w) := by
  rcases hr with ⟨rfl, _⟩ | ⟨b, off, rfl, hc⟩
  · exact uv_empty a cap w
  · exact uv_bad_some b off len cap z w hlen hc hz hno
end Go.Proofs.YbulkbjymDoor
