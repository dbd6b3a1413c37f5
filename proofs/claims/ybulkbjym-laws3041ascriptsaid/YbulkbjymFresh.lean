/- The contract of zzs3041afresh: at a round that lies in memory as 'state' makes it, it says true and turns nothing. -/
import Derived.Test.YbulkbjymChecked
import Derived.WalkKit
import Derived.WalkSpells
import Derived.WalkLawsBesides
namespace Go.Proofs.Ybulkbjym
open Go.RowKit

/-- A fresh round lies in block b: n members; three rows of n falses; all else zero. -/
structure FreshAt (w : World) (b n : Nat) : Prop where
  rows : ∃ x y z, w.cell? ⟨b, 0, none⟩ = some (.slice (some ⟨x, 0, none⟩) n n) ∧ w.cell? ⟨b, 1, none⟩ = some (.slice (some ⟨y, 0, none⟩) n n) ∧ w.cell? ⟨b, 8, none⟩ = some (.slice (some ⟨z, 0, none⟩) n n) ∧
    (∀ i, i < n → w.cell? ⟨x, i, none⟩ = some (.bool false)) ∧ (∀ i, i < n → w.cell? ⟨y, i, none⟩ = some (.bool false)) ∧ (∀ i, i < n → w.cell? ⟨z, i, none⟩ = some (.bool false))
  c2 : w.cell? ⟨b, 2, none⟩ = some (.int .i64 0)
  c3 : w.cell? ⟨b, 3, none⟩ = some (.int .i64 0)
  c4 : w.cell? ⟨b, 4, none⟩ = some (.int .u8 0)
  c5 : w.cell? ⟨b, 5, none⟩ = some (.int .u8 0)
  c6 : w.cell? ⟨b, 6, none⟩ = some (.int .i64 0)
  c7 : w.cell? ⟨b, 7, none⟩ = some (.int .u8 0)
  c9 : ∀ k, k < 4 → w.cell? ⟨b, 9 + k, none⟩ = some (.int .i64 0)
  c13 : w.cell? ⟨b, 13, none⟩ = some (.int .u8 0)
  c14 : w.cell? ⟨b, 14, none⟩ = some (.bool false)
  c15 : w.cell? ⟨b, 15, none⟩ = some (.bool false)
  c16 : w.cell? ⟨b, 16, none⟩ = some (.bool false)
  c17 : w.cell? ⟨b, 17, none⟩ = some (.bool false)

set_option maxHeartbeats 400000 in
theorem fresh_any (b n : Nat) (w : World) (hn : n ≤ 65535) (h : FreshAt w b n) :
    Calls Yba.prog 7 #[.pointer (some ⟨b, 0, none⟩), .int .i64 n] w fun e w' => e = .returned (.bool true) ∧ w' = w := by
  obtain ⟨⟨x, y, z, r0, r1, r8, hx, hy, hz⟩, c2, c3, c4, c5, c6, c7, c9, c13, c14, c15, c16, c17⟩ := h
  go_enter Yba.func7, Yba.ntmps7
  go_wp2
  go_loop [5] (fun i => ∃ k : Nat, k ≤ n ∧ i = .int .i64 k) (fun i => n - (intOf i).toNat)
  case atStart => exact ⟨0, Nat.zero_le _, rfl⟩
  case round =>
    obtain ⟨k, hk, rfl⟩ := hrel
    by_cases hlt : k < n
    · have hxk := hx k hlt
      have hyk := hy k hlt
      have hzk := hz k hlt
      go_wp2
      go_round
      case rel => exact ⟨k + 1, by omega, by go_num⟩
      case measure => simp [intOf]; omega
    · go_wp2
      go_loop [6] (fun i => ∃ k : Nat, k ≤ 4 ∧ i = .int .i64 k) (fun i => 4 - (intOf i).toNat)
      case atStart => exact ⟨0, Nat.zero_le _, rfl⟩
      case round =>
        obtain ⟨j, hj, rfl⟩ := hrel
        by_cases hlt4 : j < 4
        · have hcj := c9 j hlt4
          go_wp2
          go_round
          case rel => exact ⟨j + 1, by omega, by go_num⟩
          case measure => simp [intOf]; omega
        · go_wp2
          go_ret
          exact ⟨rfl, rfl⟩
end Go.Proofs.Ybulkbjym
