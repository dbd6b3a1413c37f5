/- The walk of LawS3041AScript over a nil script, and the walk for every script. -/
import Derived.Test.YbulkbjymScriptGo
import Derived.OpenShut
namespace Go.Proofs.Ybulkbjym.lawS3041AScript
open Go.RowKit Go.Maps

theorem add_off (b off i : Nat) : (⟨b, off, none⟩ : Addr).add i = ⟨b, off + i, none⟩ := by
  unfold Addr.add
  by_cases h : i = 0
  · subst h; simp
  · simp [h]

set_option maxRecDepth 20000 in
set_option maxHeartbeats 1000000 in
theorem walk_none (N : Nat) (a : Option Addr) (cap : Nat) (w : World) (hN : N ≤ 255) :
    Calls Yba.prog 4 #[.int .u8 N, .slice a 0 cap] w fun e w' => e = .returned (.bool true) ∧ Below w.heap.size w w' := by
  have hmm := @run_makeMap Yba.prog
  have hmk : ∀ w, (Instr.makeSlice 36 (.int .i64 0) (.int .i64 0)).run Yba.prog w = .ok (.slice (some ⟨w.heap.size, 0, none⟩) 0 0) (w.alloc (.cells (madeCells #[.pointer none] 0) 31)) :=
    run_make_row' (P := Yba.prog) 36 31 (.pointer none) 8 Yba.underlying36 info31 rfl .i64 .i64 0 (by omega) (by omega)
  go_enter Yba.func4, Yba.ntmps4
  go_wp2_with fail
  go_loopw [8, 9] (fun dd ii wr => ii = .int .i64 0 ∧ dd = .int .i64 0 ∧ Inv w N 0 (fun _ => 0) (fun _ => 0) 0 0 (.map []) wr) (fun _ _ _ => 0)
  case atStart => exact ⟨rfl, rfl, Inv.start w N 0 _ _⟩
  case round =>
    obtain ⟨rfl, rfl, hI⟩ := hrel
    rename World => wa
    have k11 := hI.c11
    have hln : (Builtin.len_ #[27] 3 #[.map (some w.heap.size)]).run Yba.prog wa = .ok (.int .i64 0) wa := len_run hI.own 3
    go_wp2_with fail
    go_loopw [14] (fun jj w2 => jj = .int .i64 0 ∧ w2 = wa) (fun _ _ => 0)
    case atStart => exact ⟨rfl, rfl⟩
    case round =>
      obtain ⟨rfl, hw⟩ := hrel
      rename World => wc
      obtain rfl : wa = wc := hw.symm
      go_wp2_with fail
      go_ret
      exact ⟨rfl, hI.below⟩

set_option maxRecDepth 20000 in
theorem walk_long (N len cap : Nat) (x : Addr) (w : World) (h : 1024 < len) (h2 : len ≤ 9223372036854775807) :
    Calls Yba.prog 4 #[.int .u8 N, .slice (some x) len cap] w fun e w' => e = .returned (.bool true) ∧ Below w.heap.size w w' := by
  have hd : decide ((1024 : Int) < (len : Int)) = true := by simp; omega
  go_enter Yba.func4, Yba.ntmps4
  go_wp2_with fail
  go_ret
  exact ⟨rfl, Below.refl _ _⟩

theorem walk (a0 : Int) (a1 : Option Addr) (len1 cap1 : Nat) (z1 : List Int) (w : World) (w0 : (Lit.int .u8 a0).wf = true) (w1 : IsRow .i8 w a1 len1 cap1 z1) :
    Calls Yba.prog 4 #[.int .u8 a0, .slice a1 len1 cap1] w fun e w' => e = .returned (.bool true) ∧ Below w.heap.size w w' := by
  have hb := bounds_u8 w0
  obtain ⟨N, rfl⟩ := Int.eq_ofNat_of_zero_le hb.1
  rcases w1 with ⟨rfl, rfl, rfl, rfl⟩ | ⟨x, rfl, hl, hm, hz, hcell, hwz⟩
  · exact walk_none N _ _ w (by omega)
  · by_cases hbig : 1024 < len1
    · exact walk_long N len1 cap1 x w hbig (by unfold maxLen at hm; omega)
    · have hr := range_i8 hwz
      by_cases h0 : len1 = 0
      · subst h0
        exact walk_none N _ _ w (by omega)
      · obtain ⟨b, off, spot⟩ := x
        have hc := hcell 0 (by omega)
        have hspot : spot = none := by simpa [Addr.add] using World.cell?_spot hc
        subst hspot
        exact walk_some N b off len1 cap1 (fun i => z1.getD i 0) w (by omega) (by omega) (fun i hi => by have := hcell i (by omega); rw [add_off] at this; exact this) (fun i => by have := hr i; simpa using this)

end Go.Proofs.Ybulkbjym.lawS3041AScript
