/- The contract of decodeStateAsk. -/
import Derived.Test.YbulkbjymDoorModel
import Derived.OpenShut
namespace Go.Proofs.YbulkbjymDoor
open Go.RowKit
set_option linter.unusedVariables false

theorem val_bounds (z : Nat → Int) (t : Nat) : 0 ≤ val z t ∧ val z t ≤ 18446744073709551615 := bounds_u64 (wf_bits _ _ _ _)

theorem lt_of_cell {w : World} {a : Addr} {v : Value} (h : w.cell? a = some v) : a.block < w.heap.size := by
  unfold World.cell? at h
  split at h
  · rename_i e
    exact (Array.getElem?_eq_some_iff.1 e).1
  · cases h
theorem cell_new {w : World} {a : Addr} {v : Value} (o : Obj) (h : w.cell? a = some v) : (w.alloc o).cell? a = some v := by
  rw [World.cell?_alloc_lt w o a (lt_of_cell h)]; exact h

set_option maxHeartbeats 1000000 in
theorem dec_ok (b off cap t : Nat) (z : Nat → Int) (w : World) (hcap : t + 2 ≤ cap) (hcell : ∀ i, i < t + 2 → w.cell? ⟨b, off + i, none⟩ = some (.int .u8 (z i))) (hz : ∀ i, 0 ≤ z i ∧ z i ≤ 255)
    (hT : Term z t) (hint : val z t ≤ 9223372036854775807) (hbit : z (t + 1) ≤ 1) :
    Calls Ybad.prog 6 #[.slice (some ⟨b, off, none⟩) (t + 2) cap] w fun e w' => e = .returned (.tuple #[.int .i64 (val z t), .bool (z (t + 1) == 1), .nilIface]) ∧ Below w.heap.size w w' := by
  have hv := val_bounds z t
  have hc1 : ∀ o, (w.alloc o).cell? ⟨b, off + (t + 1), none⟩ = some (.int .u8 (z (t + 1))) := fun o => cell_new o (hcell (t + 1) (by omega))
  have hz1 := hz (t + 1)
  have ht9 : t ≤ 9 := by have := hT.fits; omega
  go_enter Ybad.func6, Ybad.ntmps6
  go_wp2_with (first | (go_at_call 16; refine (uv_ok b off (t + 2) cap t z _ (by omega) (fun i hi => cell_new _ (hcell i hi)) hz (by omega) hT).mono ?_; rintro e w1 ⟨rfl, rfl⟩) | go_in)
  all_goals
    go_ret3
    exact ⟨rfl, (Below.refl _ _).alloc (Nat.le_refl _) _⟩

/-- What decodeStateAsk hands back where it refuses: ty, x: the sentinel. -/
abbrev decNo (ty : TypeId) (x : Value) : Ending := .returned (.tuple #[.int .i64 0, .bool false, .iface ty x])

theorem below_drewN {B : Nat} {a w : World} (h : Below B a w) (n : Nat) : Below B a (w.drewN n) := ⟨h.os, h.tape, h.output, h.size, h.block⟩

theorem row_new {w : World} {a : Option Addr} {len cap : Nat} {z : Nat → Int} (o : Obj) (h : Row w a len cap z) : Row (w.alloc o) a len cap z := by
  rcases h with h | ⟨b, off, e, hc⟩
  · exact .inl h
  · exact .inr ⟨b, off, e, fun i hi => cell_new o (hc i hi)⟩

set_option maxHeartbeats 1000000 in
/-- No varint within 64 bits ends in the bytes. -/
theorem dec_none (a : Option Addr) (len cap : Nat) (z : Nat → Int) (w : World) (ty : TypeId) (x : Value) (hg : w.cell? ⟨0, 0, none⟩ = some (.iface ty x)) (hlen : len ≤ 4611686018427387904) (hr : Row w a len cap z) (hz : ∀ i, 0 ≤ z i ∧ z i ≤ 255)
    (hno : ∀ t, t < len → ¬ Term z t) : Calls Ybad.prog 6 #[.slice a len cap] w fun e w' => e = decNo ty x ∧ Below w.heap.size w w' := by
  have hg' : ∀ o, (w.alloc o).cell? ⟨0, 0, none⟩ = some (.iface ty x) := fun o => cell_new o hg
  go_enter Ybad.func6, Ybad.ntmps6
  go_wp2_with (first | (go_at_call 16; refine (uv_bad a len cap z _ hlen (row_new _ hr) hz hno).mono ?_; rintro e w1 ⟨n, hn, rfl, rfl⟩; have hn0 : n ≤ 0 := (by omega); clear hn) | go_in)
  go_quiet (fail)
  go_wp2
  go_ret3
  exact ⟨rfl, below_drewN ((Below.refl _ _).alloc (Nat.le_refl _) _) _⟩

set_option maxHeartbeats 1000000 in
/-- The varint ends at place t, but what it says, or what follows it, is not let by. -/
theorem dec_no (b off len cap t : Nat) (z : Nat → Int) (w : World) (ty : TypeId) (x : Value) (hg : w.cell? ⟨0, 0, none⟩ = some (.iface ty x)) (hlen : len ≤ 4611686018427387904) (hcap : len ≤ cap) (hcell : ∀ i, i < len → w.cell? ⟨b, off + i, none⟩ = some (.int .u8 (z i))) (hz : ∀ i, 0 ≤ z i ∧ z i ≤ 255)
    (ht : t < len) (hT : Term z t) (hbad : 9223372036854775807 < val z t ∨ (val z t ≤ 9223372036854775807 ∧ len ≠ t + 2) ∨ (val z t ≤ 9223372036854775807 ∧ len = t + 2 ∧ 1 < z (t + 1))) :
    Calls Ybad.prog 6 #[.slice (some ⟨b, off, none⟩) len cap] w fun e w' => e = decNo ty x ∧ Below w.heap.size w w' := by
  have hg' : ∀ o, (w.alloc o).cell? ⟨0, 0, none⟩ = some (.iface ty x) := fun o => cell_new o hg
  have hv := val_bounds z t
  have ht9 : t ≤ 9 := by have := hT.fits; omega
  have hz1 := hz (t + 1)
  have hpos : (0 : Int) < (t : Int) + 1 := by omega
  have hle : ((t : Int) + 1) ≤ (len : Int) := by omega
  rcases hbad with h | ⟨h, h2⟩ | ⟨h, h2, h3⟩
  · go_enter Ybad.func6, Ybad.ntmps6
    go_wp2_with (first | (go_at_call 16; refine (uv_ok b off len cap t z _ hlen (fun i hi => cell_new _ (hcell i hi)) hz ht hT).mono ?_; rintro e w1 ⟨rfl, rfl⟩) | go_in)
    all_goals
      go_quiet (fail)
      go_wp2
      go_ret3
      exact ⟨rfl, below_drewN ((Below.refl _ _).alloc (Nat.le_refl _) _) _⟩
  · by_cases h3 : len = t + 1
    · subst h3
      go_enter Ybad.func6, Ybad.ntmps6
      go_wp2_with (first | (go_at_call 16; refine (uv_ok b off (t + 1) cap t z _ hlen (fun i hi => cell_new _ (hcell i hi)) hz ht hT).mono ?_; rintro e w1 ⟨rfl, rfl⟩) | go_in)
      all_goals
        go_quiet (fail)
        go_wp2
        go_ret3
        exact ⟨rfl, below_drewN ((Below.refl _ _).alloc (Nat.le_refl _) _) _⟩
    · have hc1 : ∀ o, (w.alloc o).cell? ⟨b, off + (t + 1), none⟩ = some (.int .u8 (z (t + 1))) := fun o => cell_new o (hcell (t + 1) (by omega))
      have h4 : t + 2 < len := by omega
      clear h2 h3
      go_enter Ybad.func6, Ybad.ntmps6
      go_wp2_with (first | (go_at_call 16; refine (uv_ok b off len cap t z _ hlen (fun i hi => cell_new _ (hcell i hi)) hz ht hT).mono ?_; rintro e w1 ⟨rfl, rfl⟩) | go_in)
      all_goals
        go_quiet (fail)
        go_wp2
        go_ret3
        exact ⟨rfl, below_drewN ((Below.refl _ _).alloc (Nat.le_refl _) _) _⟩
  · subst h2
    have hc1 : ∀ o, (w.alloc o).cell? ⟨b, off + (t + 1), none⟩ = some (.int .u8 (z (t + 1))) := fun o => cell_new o (hcell (t + 1) (by omega))
    go_enter Ybad.func6, Ybad.ntmps6
    go_wp2_with (first | (go_at_call 16; refine (uv_ok b off (t + 2) cap t z _ hlen (fun i hi => cell_new _ (hcell i hi)) hz ht hT).mono ?_; rintro e w1 ⟨rfl, rfl⟩) | go_in)
    all_goals
      go_quiet (fail)
      go_wp2
      go_ret3
      exact ⟨rfl, below_drewN ((Below.refl _ _).alloc (Nat.le_refl _) _) _⟩

theorem val_nonneg (z : Nat → Int) (t : Nat) : 0 ≤ val z t := (val_bounds z t).1

/-- Why bytes whose varint ends at place t are no good ask. -/
theorem not_good {z : Nat → Int} {len t : Nat} (hT : Term z t) (hbad : ∀ t, ¬ Good z len t) :
    9223372036854775807 < val z t ∨ (val z t ≤ 9223372036854775807 ∧ len ≠ t + 2) ∨ (val z t ≤ 9223372036854775807 ∧ len = t + 2 ∧ 1 < z (t + 1)) := by
  rcases Int.lt_or_le 9223372036854775807 (val z t) with h | h
  · exact .inl h
  · by_cases h2 : len = t + 2
    · rcases Int.lt_or_le 1 (z (t + 1)) with h3 | h3
      · exact .inr (.inr ⟨h, h2, h3⟩)
      · exact absurd ⟨hT, h2, h, h3⟩ (hbad t)
    · exact .inr (.inl ⟨h, h2⟩)

theorem dec_bad (a : Option Addr) (len cap : Nat) (z : Nat → Int) (w : World) (ty : TypeId) (x : Value) (hg : w.cell? ⟨0, 0, none⟩ = some (.iface ty x)) (hlen : len ≤ 4611686018427387904) (hcap : len ≤ cap) (hr : Row w a len cap z) (hz : ∀ i, 0 ≤ z i ∧ z i ≤ 255)
    (hbad : ∀ t, ¬ Good z len t) : Calls Ybad.prog 6 #[.slice a len cap] w fun e w' => e = decNo ty x ∧ Below w.heap.size w w' := by
  by_cases hex : ∃ t, t < len ∧ Term z t
  · obtain ⟨t, ht, hT⟩ := hex
    rcases hr with ⟨h0, _⟩ | ⟨b, off, rfl, hc⟩
    · omega
    · exact dec_no b off len cap t z w ty x hg hlen hcap hc hz ht hT (not_good hT hbad)
  · exact dec_none a len cap z w ty x hg hlen hr hz (fun t ht hT => hex ⟨t, ht, hT⟩)

theorem model_bad (a : Option Addr) (len cap : Nat) (z : Nat → Int) (w : World) (hlen : len ≤ 4611686018427387904) (hcap : len ≤ cap) (hr : Row w a len cap z) (hz : ∀ i, 0 ≤ z i ∧ z i ≤ 255)
    (hbad : ∀ t, ¬ Good z len t) : Calls Ybad.prog 7 #[.slice a len cap] w fun e w' => e = modelNo ∧ w' = w := by
  rcases hr with ⟨rfl, _⟩ | ⟨b, off, rfl, hc⟩
  · exact model_empty a cap w
  · by_cases hex : ∃ t, t < len ∧ Term z t
    · obtain ⟨t, ht, hT⟩ := hex
      exact model_no b off len cap t z w hlen hcap hc hz ht hT (not_good hT hbad)
    · exact model_none b off len cap z w hlen hc hz (fun t ht hT => hex ⟨t, ht, hT⟩)
end Go.Proofs.YbulkbjymDoor
