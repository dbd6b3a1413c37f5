/- The contracts of zzs3041bput and of encoding/binary.AppendUvarint, both called on nil. -/
import Derived.Test.YbulkbjymDoorDec
import Derived.Deep.AppendLies
import Derived.OwnWalk
namespace Go.Proofs.YbulkbjymDoor
open Go.RowKit
set_option linter.unusedVariables false

/-- v shifted right by 7 bits k times. -/
def rest (v : Int) : Nat → Int
  | 0 => v
  | k + 1 => rest v k / 128
theorem rest_zero (v : Int) : rest v 0 = v := rfl
theorem rest_succ (v : Int) (k : Nat) : rest v (k + 1) = rest v k / 128 := rfl
theorem rest_nn (v : Int) (h : 0 ≤ v) : ∀ k, 0 ≤ rest v k
  | 0 => h
  | k + 1 => by rw [rest_succ]; have := rest_nn v h k; omega
theorem rest_add (v : Int) (k : Nat) : ∀ j, rest v (k + j) = rest (rest v k) j
  | 0 => rfl
  | j + 1 => by rw [← Nat.add_assoc, rest_succ, rest_succ, rest_add v k j]
theorem rest_nine (v : Int) (h : 0 ≤ v) (hv : v ≤ 18446744073709551615) : rest v 9 ≤ 1 := by
  simp only [rest]; omega
theorem rest_le (v : Int) (h : 0 ≤ v) : ∀ k, rest v k ≤ v
  | 0 => Int.le_refl _
  | k + 1 => by rw [rest_succ]; have := rest_le v h k; have := rest_nn v h k; omega
theorem rest_far (v : Int) (h : 0 ≤ v) (hv : v ≤ 18446744073709551615) (k : Nat) (hk : 128 ≤ rest v k) : k ≤ 8 := by
  rcases Nat.lt_or_ge k 9 with h9 | h9
  · omega
  · obtain ⟨j, rfl⟩ := Nat.exists_eq_add_of_le h9
    rw [rest_add] at hk
    have h1 := rest_nine v h hv
    have h2 := rest_le (rest v 9) (rest_nn v h 9) j
    omega
/-- The byte with its high bit set. -/
def hib (u : Int) : Int := bits BinOp.or IntKind.u8 (u % 256) 128
/-- The first k bytes. -/
def encTo (v : Int) : Nat → List Int
  | 0 => []
  | k + 1 => encTo v k ++ [hib (rest v k)]
theorem encTo_succ (v : Int) (k : Nat) : encTo v (k + 1) = encTo v k ++ [hib (rest v k)] := rfl
/-- The bytes as cells. -/
def cellsU8 (l : List Int) : List Value := l.map (Value.int .u8)
theorem cellsU8_snoc (l : List Int) (x : Int) : cellsU8 l ++ [.int .u8 x] = cellsU8 (l ++ [x]) := by simp [cellsU8]

theorem info5 : (Ybad.prog.info? 5).map (fun i => (i.zero, i.size, i.bytes)) = some (some (.int .u8 0), 1, 1) := by kernel_rfl

/-- What the two hand back: a new slice of the varint's t + 1 bytes. -/
def PutPost (v : Int) (w : World) (e : Ending) (w' : World) : Prop :=
  ∃ t g cap, e = .returned (.slice (some ⟨g, 0, none⟩) (t + 1) cap) ∧ (∀ j, j < t → 128 ≤ rest v j) ∧ rest v t < 128 ∧ t ≤ 9 ∧
    w'.ownsRow w.heap.size 5 1 (.slice (some ⟨g, 0, none⟩) (t + 1) cap) (t + 1) (cellsU8 (encTo v t ++ [rest v t])) ∧ Below w.heap.size w w'

set_option maxHeartbeats 1000000 in
theorem put_any (v : Int) (w : World) (h0 : 0 ≤ v) (hv : v ≤ 18446744073709551615) :
    Calls Ybad.prog 8 #[.slice none 0 0, .int .u64 v] w (PutPost v w) := by
  obtain ⟨i, hi, hz0, hz1, hz2⟩ := info_parts info5
  go_enter Ybad.func8, Ybad.ntmps8
  go_wp2_with fail
  go_loopw [0, 1] (fun bv vv wr => ∃ k : Nat, (∀ j, j < k → 128 ≤ rest v j) ∧ k ≤ 9 ∧ vv = .int .u64 (rest v k) ∧ wr.ownsRow w.heap.size 5 1 bv k (cellsU8 (encTo v k)) ∧ Below w.heap.size w wr) (fun _ vv _ => (intOf vv).toNat)
  case atStart => exact ⟨0, fun j hj => by omega, by omega, rfl, World.ownsRow_nil _ _ _ _, Below.refl _ _⟩
  case round =>
    obtain ⟨k, hbig, hk9, rfl, hown, hb⟩ := hrel
    have hnn := rest_nn v h0 k
    have hle := rest_le v h0 k
    have hbs := hb.size
    have Hbig : Hid (∀ j, j < k → 128 ≤ rest v j) := hbig
    clear hbig
    by_cases hge : 128 ≤ rest v k
    · have hk8 := rest_far v h0 hv k hge
      go_wp2_with (at_builtin; refine wpList_append_lies _ rfl _ _ _ rfl w.heap.size 5 i (.int .u8 0) 1 1 Ybad.underlying22 hi hz0 hz1 hz2 rfl (by omega) _ k (cellsU8 (encTo v k)) rfl (hown.alloc _) ⟨wr.heap.size, 0, none⟩ 1 1 [.int .u8 (hib (rest v k))] rfl rfl (cell_one_new _ _ _) (fun x hx => by simp at hx; subst hx; rfl) (by omega) (by unfold maxLen; omega) (by omega) (by simp; omega) _ rfl ?_; intro g cap w1 hown1 hgrow1 hat hlt)
      have hb1 : Below w.heap.size w w1 := (hb.alloc hbs _).grown hgrow1 (by simp; omega) (fun q hq => (hown.lt q hq).1)
      rw [cellsU8_snoc, ← encTo_succ] at hown1
      go_roundw
      case rel =>
        refine ⟨k + 1, fun j hj => ?_, by omega, rfl, hown1, hb1⟩
        rcases Nat.lt_or_ge j k with h | h
        · exact Hbig.out j h
        · rw [show j = k from by omega]; exact hge
      case measure => simp [intOf]; omega
    · go_wp2_with (at_builtin; refine wpList_append_lies _ rfl _ _ _ rfl w.heap.size 5 i (.int .u8 0) 1 1 Ybad.underlying22 hi hz0 hz1 hz2 rfl (by omega) _ k (cellsU8 (encTo v k)) rfl (hown.alloc _) ⟨wr.heap.size, 0, none⟩ 1 1 [.int .u8 (rest v k)] rfl rfl (cell_one_new _ _ _) (fun x hx => by simp at hx; subst hx; rfl) (by omega) (by unfold maxLen; omega) (by omega) (by simp; omega) _ rfl ?_; intro g cap w1 hown1 hgrow1 hat hlt)
      have hb1 : Below w.heap.size w w1 := (hb.alloc hbs _).grown hgrow1 (by simp; omega) (fun q hq => (hown.lt q hq).1)
      rw [cellsU8_snoc] at hown1
      go_ret
      exact ⟨k, g, cap, rfl, Hbig.out, by omega, hk9, hown1, hb1⟩

set_option maxHeartbeats 1000000 in
theorem appendUvarint_any (v : Int) (w : World) (h0 : 0 ≤ v) (hv : v ≤ 18446744073709551615) :
    Calls Ybad.prog 12 #[.slice none 0 0, .int .u64 v] w (PutPost v w) := by
  obtain ⟨i, hi, hz0, hz1, hz2⟩ := info_parts info5
  go_enter Ybad.func12, Ybad.ntmps12
  go_wp2_with fail
  go_loopw [0, 1] (fun bv vv wr => ∃ k : Nat, (∀ j, j < k → 128 ≤ rest v j) ∧ k ≤ 9 ∧ vv = .int .u64 (rest v k) ∧ wr.ownsRow w.heap.size 5 1 bv k (cellsU8 (encTo v k)) ∧ Below w.heap.size w wr) (fun _ vv _ => (intOf vv).toNat)
  case atStart => exact ⟨0, fun j hj => by omega, by omega, rfl, World.ownsRow_nil _ _ _ _, Below.refl _ _⟩
  case round =>
    obtain ⟨k, hbig, hk9, rfl, hown, hb⟩ := hrel
    have hnn := rest_nn v h0 k
    have hle := rest_le v h0 k
    have hbs := hb.size
    have Hbig : Hid (∀ j, j < k → 128 ≤ rest v j) := hbig
    clear hbig
    by_cases hge : 128 ≤ rest v k
    · have hk8 := rest_far v h0 hv k hge
      go_wp2_with (at_builtin; refine wpList_append_lies _ rfl _ _ _ rfl w.heap.size 5 i (.int .u8 0) 1 1 Ybad.underlying22 hi hz0 hz1 hz2 rfl (by omega) _ k (cellsU8 (encTo v k)) rfl (hown.alloc _) ⟨wr.heap.size, 0, none⟩ 1 1 [.int .u8 (hib (rest v k))] rfl rfl (cell_one_new _ _ _) (fun x hx => by simp at hx; subst hx; rfl) (by omega) (by unfold maxLen; omega) (by omega) (by simp; omega) _ rfl ?_; intro g cap w1 hown1 hgrow1 hat hlt)
      have hb1 : Below w.heap.size w w1 := (hb.alloc hbs _).grown hgrow1 (by simp; omega) (fun q hq => (hown.lt q hq).1)
      rw [cellsU8_snoc, ← encTo_succ] at hown1
      go_roundw
      case rel =>
        refine ⟨k + 1, fun j hj => ?_, by omega, rfl, hown1, hb1⟩
        rcases Nat.lt_or_ge j k with h | h
        · exact Hbig.out j h
        · rw [show j = k from by omega]; exact hge
      case measure => simp [intOf]; omega
    · go_wp2_with (at_builtin; refine wpList_append_lies _ rfl _ _ _ rfl w.heap.size 5 i (.int .u8 0) 1 1 Ybad.underlying22 hi hz0 hz1 hz2 rfl (by omega) _ k (cellsU8 (encTo v k)) rfl (hown.alloc _) ⟨wr.heap.size, 0, none⟩ 1 1 [.int .u8 (rest v k)] rfl rfl (cell_one_new _ _ _) (fun x hx => by simp at hx; subst hx; rfl) (by omega) (by unfold maxLen; omega) (by omega) (by simp; omega) _ rfl ?_; intro g cap w1 hown1 hgrow1 hat hlt)
      have hb1 : Below w.heap.size w w1 := (hb.alloc hbs _).grown hgrow1 (by simp; omega) (fun q hq => (hown.lt q hq).1)
      rw [cellsU8_snoc] at hown1
      go_ret
      exact ⟨k, g, cap, rfl, Hbig.out, by omega, hk9, hown1, hb1⟩
end Go.Proofs.YbulkbjymDoor
