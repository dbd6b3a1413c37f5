/- The walk of LawS3041AScript. -/
import Derived.Test.YbulkbjymScriptWalk
namespace Go.Proofs.Ybulkbjym.lawS3041AScript
open Go.RowKit Go.Maps

theorem info31 : (Yba.prog.info? 31).map (fun i => (i.zero, i.size, i.bytes)) = some (some (.pointer none), 1, 8) := by kernel_rfl
theorem wf_i8 (x : Int) (h : -128 ≤ x ∧ x ≤ 127) : (Lit.int .i64 x).wf = true := WalkArith.wf_i64 (by omega)

set_option maxRecDepth 20000 in
set_option maxHeartbeats 1000000 in
theorem walk_some (N b off len cap : Nat) (z : Nat → Int) (w : World) (hN : N ≤ 255) (hlen : len ≤ 1024) (hcell : ∀ i, i < len → w.cell? ⟨b, off + i, none⟩ = some (.int .i8 (z i))) (hz : ∀ i, -128 ≤ z i ∧ z i ≤ 127) :
    Calls Yba.prog 4 #[.int .u8 N, .slice (some ⟨b, off, none⟩) len cap] w fun e w' => e = .returned (.bool true) ∧ Below w.heap.size w w' := by
  have hmm := @run_makeMap Yba.prog
  have hne := neq_same
  have hmk := run_make_row' (P := Yba.prog) 36 31 (.pointer none) 8 Yba.underlying36 info31 rfl .i64 .i64 len (by omega) (by omega)
  have hdec : decide ((1024 : Int) < (len : Int)) = false := by simp; omega
  go_enter Yba.func4, Yba.ntmps4
  go_wp2_with fail
  go_loopw [8, 9] (fun dd ii wr => ∃ (i d : Nat) (G : Nat → Nat) (D : DataW Unit), i ≤ len ∧ ii = .int .i64 i ∧ dd = .int .i64 d ∧ d ≤ i ∧ Inv w N len z G i d D wr) (fun _ ii _ => len - (intOf ii).toNat)
  case atStart => exact ⟨0, 0, fun _ => 0, .map [], by omega, rfl, rfl, by omega, Inv.start w N len z _⟩
  case round =>
    obtain ⟨i, d, G, D, hi, rfl, rfl, hd, hI⟩ := hrel
    rename World => wa
    by_cases hlt : i < len
    · have hci : wa.cell? ⟨b, off + i, none⟩ = some (.int .i8 (z i)) := by rw [hI.below.cell (lt_of_cell (hcell i hlt))]; exact hcell i hlt
      have hzi := hz i
      by_cases hex : ∃ j, j < i ∧ z j = z i
      · obtain ⟨p, hp, hpz, hfirst⟩ := first_of z (z i) i hex
        have hcj : ∀ j, j < i → wa.cell? ⟨b, off + j, none⟩ = some (.int .i8 (z j)) := fun j hj => by rw [hI.below.cell (lt_of_cell (hcell j (by omega)))]; exact hcell j (by omega)
        have Hpz : Hid (z p = z i) := hpz
        have hat : Hid (D.atKey (.int .i64 (z i)) (.lit (.int .i64 (-1))) = .lit (.int .i64 (G p : Int))) := by have := hI.atk p hp; rw [hpz] at this; exact this
        have hhas : Hid (Maps.has D (.int .i64 (z i)) = true) := (hI.has (z i)).2 ⟨p, hp, hpz⟩
        clear hpz hex
        go_wp2_with fail
        refine (state_hit (w.heap.size + 1) w.heap.size i (G p) (z i) D wa hI.c11 hI.own (wf_i8 _ hzi) hhas.out hat.out).mono ?_
        rintro e w1 ⟨rfl, hw1⟩
        obtain rfl : wa = w1 := hw1.symm
        go_wp2_with fail
        go_loopw [12, 13] (fun pv jj w2 => ∃ k n : Nat, k ≤ p ∧ jj = .int .i64 k ∧ pv = .int .i64 (-1) ∧ w2 = wa.drewN n) (fun _ jj _ => p - (intOf jj).toNat)
        case atStart => exact ⟨0, 0, by omega, rfl, rfl, rfl⟩
        case round =>
          obtain ⟨k, n, hk, rfl, rfl, rfl⟩ := hrel
          have hck := hcj k (by omega)
          by_cases hkp : k < p
          · have hzz : (z k == z i) = false := by simp; exact hfirst k hkp
            go_wp2_with fail
            go_quiet (fail)
            go_wp2_with fail
            go_roundw
            case rel => exact ⟨k + 1, _, by omega, by go_num, rfl, rfl⟩
            case measure => simp [intOf]; omega
          · obtain rfl : k = p := by omega
            have hzz : (z k == z i) = true := by simp; exact Hpz.out
            go_wp2_with fail
            go_quiet (fail)
            have hI2 := (hI.drewN n).drewN nq
            generalize (wa.drewN n).drewN nq = wb at hI2 ⊢
            have hm := hI2.mark k hp (fun j hj => by rw [Hpz.out]; exact hfirst j hj)
            obtain ⟨hm17, hm6⟩ := hm
            have hgk : wb.cell? ⟨w.heap.size + 1 + 1, k, none⟩ = some (.pointer (some ⟨G k, 0, none⟩)) := by have := hI2.got.cell (i := k) (by omega); rw [if_pos hp] at this; exact this
            have hgi : wb.cell? ⟨w.heap.size + 1 + 1, i, none⟩ = some (.pointer none) := by have := hI2.got.cell (i := i) hlt; rw [if_neg (by omega)] at this; exact this
            have hgf : wb.frozen? ⟨w.heap.size + 1 + 1, i, none⟩ = false := hI2.got.frozen i
            have hI3 := hI2.again hp Hpz.out
            have k11 : (wb.setCell ⟨w.heap.size + 1 + 1, i, none⟩ (.pointer (some ⟨G k, 0, none⟩))).cell? ⟨w.heap.size + 1, 11, none⟩ = some (.map (some w.heap.size)) := hI3.c11
            have hln : (Builtin.len_ #[27] 3 #[.map (some w.heap.size)]).run Yba.prog (wb.setCell ⟨w.heap.size + 1 + 1, i, none⟩ (.pointer (some ⟨G k, 0, none⟩))) = .ok (.int .i64 d) (wb.setCell ⟨w.heap.size + 1 + 1, i, none⟩ (.pointer (some ⟨G k, 0, none⟩))) := by
              have := len_run hI3.own 3; rw [hI3.size] at this; exact this
            clear hI hI2 hhas hat hcj hck hci hfirst hzz
            go_wp2_with fail
            go_roundw
            case rel => exact ⟨i + 1, d, _, D, by omega, by go_num, rfl, by omega, hI3⟩
            case measure => simp [intOf]; omega
      · have hno : ∀ j, j < i → z j ≠ z i := fun j hj e => hex ⟨j, hj, e⟩
        have hcj : ∀ j, j < i → w.cell? ⟨b, off + j, none⟩ = some (.int .i8 (z j)) := fun j hj => hcell j (by omega)
        have hhas : Hid (Maps.has D (.int .i64 (z i)) = false) := by
          cases hh : Maps.has D (.int .i64 (z i))
          · rfl
          · exact absurd ((hI.has (z i)).1 hh) hex
        clear hex
        go_wp2_with fail
        refine (state_new (w.heap.size + 1) w.heap.size i N (z i) D wa (by omega) hI.c0 hI.c11 hI.own (wf_i8 _ hzi) hhas.out (by unfold maxLen; omega)).mono ?_
        rintro e w1 ⟨st, rfl, h1, h2, hown, hg, hfr, hrow⟩
        have hM := Mid.of hI hno h1 h2 hown hg hrow
        generalize D.put (.int .i64 (z i)) (.lit (.int .i64 (st : Int))) = D1 at hM
        clear hown hg hrow hI hhas hci h1 h2
        have hci : w1.cell? ⟨b, off + i, none⟩ = some (.int .i8 (z i)) := by rw [hM.below.cell (lt_of_cell (hcell i hlt))]; exact hcell i hlt
        go_wp2_with fail
        go_loopw [12, 13] (fun pv jj w2 => ∃ k n : Nat, k ≤ i ∧ jj = .int .i64 k ∧ pv = .int .i64 (-1) ∧ w2 = w1.drewN n) (fun _ jj _ => i - (intOf jj).toNat)
        case atStart => exact ⟨0, 0, by omega, rfl, rfl, rfl⟩
        case round =>
          obtain ⟨k, n, hk, rfl, rfl, rfl⟩ := hrel
          by_cases hki : k < i
          · have hck : w1.cell? ⟨b, off + k, none⟩ = some (.int .i8 (z k)) := by rw [hM.below.cell (lt_of_cell (hcj k hki))]; exact hcj k hki
            have hzz : (z k == z i) = false := by simp; exact hno k hki
            go_wp2_with fail
            go_quiet (fail)
            go_wp2_with fail
            go_roundw
            case rel => exact ⟨k + 1, _, by omega, by go_num, rfl, rfl⟩
            case measure => simp [intOf]; omega
          · have hM2 := hM.drewN n
            have hfr2 := Fresh_drewN hfr n
            generalize w1.drewN n = wb at hM2 hfr2 ⊢
            clear hM hfr hci hcj hno
            obtain ⟨n1, n2⟩ := hM2.new
            obtain ⟨f, hrow⟩ := hM2.row
            have hs17 := hrow.cell (i := 17) (by omega)
            have hs6 := hrow.cell (i := 6) (by omega)
            have hf17 := hrow.frozen 17
            have hf6 := hrow.frozen 6
            have hgi : ∀ u v, ((wb.setCell ⟨st, 17, none⟩ u).setCell ⟨st, 6, none⟩ v).cell? ⟨w.heap.size + 1 + 1, i, none⟩ = some (.pointer none) := fun u v => by
              have := ((hM2.got.setOther (a := ⟨st, 17, none⟩) (by simp; omega) u).setOther (a := ⟨st, 6, none⟩) (by simp; omega) v).cell (i := i) hlt; rw [if_neg (by omega)] at this; exact this
            have hgf : wb.frozen? ⟨w.heap.size + 1 + 1, i, none⟩ = false := hM2.got.frozen i
            have hI3 := hM2.store
            have k11 : (((wb.setCell ⟨st, 17, none⟩ (.bool true)).setCell ⟨st, 6, none⟩ (.int .i64 ((i : Int) + 1))).setCell ⟨w.heap.size + 1 + 1, i, none⟩ (.pointer (some ⟨st, 0, none⟩))).cell? ⟨w.heap.size + 1, 11, none⟩ = some (.map (some w.heap.size)) := hI3.c11
            have hln : (Builtin.len_ #[27] 3 #[.map (some w.heap.size)]).run Yba.prog (((wb.setCell ⟨st, 17, none⟩ (.bool true)).setCell ⟨st, 6, none⟩ (.int .i64 ((i : Int) + 1))).setCell ⟨w.heap.size + 1 + 1, i, none⟩ (.pointer (some ⟨st, 0, none⟩))) = .ok (.int .i64 ((d : Int) + 1)) (((wb.setCell ⟨st, 17, none⟩ (.bool true)).setCell ⟨st, 6, none⟩ (.int .i64 ((i : Int) + 1))).setCell ⟨w.heap.size + 1 + 1, i, none⟩ (.pointer (some ⟨st, 0, none⟩))) := by
              have := len_run hI3.own 3; rw [hI3.size] at this; exact this
            clear hM2 hrow
            go_wp2_with fail
            refine (fresh_any st N wb (by omega) hfr2).mono ?_
            rintro e w2 ⟨rfl, hw2⟩
            obtain rfl : wb = w2 := hw2.symm
            go_wp2_with fail
            go_roundw
            case rel => exact ⟨i + 1, d + 1, _, D1, by omega, by go_num, by go_num, by omega, hI3⟩
            case measure => simp [intOf]; omega
    · have hkl : ∀ j, j < len → wa.cell? ⟨b, off + j, none⟩ = some (.int .i8 (z j)) := fun j hj => by rw [hI.below.cell (lt_of_cell (hcell j hj))]; exact hcell j hj
      have k11 := hI.c11
      have hln : ∀ n, (Builtin.len_ #[27] 3 #[.map (some w.heap.size)]).run Yba.prog (wa.drewN n) = .ok (.int .i64 d) (wa.drewN n) := fun n => by
        have := len_run (hI.drewN n).own 3; rw [hI.size] at this; exact this
      go_wp2_with fail
      go_loopw [14] (fun jj w2 => ∃ k n : Nat, k ≤ len ∧ jj = .int .i64 k ∧ w2 = wa.drewN n) (fun jj _ => len - (intOf jj).toNat)
      case atStart => exact ⟨0, 0, by omega, rfl, rfl⟩
      case round =>
        obtain ⟨k, n, hk, rfl, rfl⟩ := hrel
        by_cases hkl2 : k < len
        · have hck := hkl k hkl2
          have hzk := hz k
          have hlk : ∀ n, (Instr.lookup 27 (.map (some w.heap.size)) (.int .i64 (z k)) false).run Yba.prog (wa.drewN n) = .ok (.pointer (some ⟨G k, 0, none⟩)) (wa.drewN n) := fun n => look_run (hI.drewN n).own (wf_i8 _ hzk) (hI.atk k (by omega))
          have hgk : wa.cell? ⟨w.heap.size + 1 + 1, k, none⟩ = some (.pointer (some ⟨G k, 0, none⟩)) := by have := hI.got.cell (i := k) (by omega); rw [if_pos (by omega)] at this; exact this
          go_wp2_with fail
          go_quiet (fail)
          go_wp2_with fail
          go_roundw
          case rel => exact ⟨k + 1, _, by omega, by go_num, rfl⟩
          case measure => simp [intOf]; omega
        · go_wp2_with fail
          go_ret
          exact ⟨rfl, (hI.drewN n).below⟩
end Go.Proofs.Ybulkbjym.lawS3041AScript
