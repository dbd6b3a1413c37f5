/- The contracts of NewReader and Reader.Get. -/
import Derived.Test.YbulkbkbsModel
import Derived.Deep.RegionHeld3
import Derived.Deep.DrawnRows
namespace Go.Proofs.Ybulkbkbs
open Go.RowKit
set_option linter.unusedVariables false

theorem below_drewN {B : Nat} {a w : World} (h : Below B a w) (n : Nat) : Below B a (w.drewN n) := ⟨h.os, h.tape, h.output, h.size, h.block⟩

/-- The reader as a value. -/
abbrev rdr (a : Option Addr) (len cap k : Nat) : Value := .agg #[.slice a len cap, .int .u64 (k : Nat), .int .u64 ((2 ^ k - 1 : Nat) : Int)]

theorem mask_eq (k : Nat) (hk : k ≤ 32) : IntKind.u64.wrap (IntKind.u64.wrap (2 ^ k) - 1) = ((2 ^ k - 1 : Nat) : Int) := by
  have hle : 2 ^ k ≤ 4294967296 := Nat.pow_le_pow_right (n := 2) (by omega) hk
  have hpos : 0 < 2 ^ k := Nat.pow_pos (by omega)
  have e : ((2 : Int) ^ k) = ((2 ^ k : Nat) : Int) := by simp
  rw [e]
  generalize 2 ^ k = y at hle hpos
  rw [IntKind.wrap_u64, IntKind.wrap_u64]
  omega

set_option maxHeartbeats 400000 in
theorem newReader_any (a : Option Addr) (len cap k : Nat) (w : World) (hk : k ≤ 32) :
    Calls Yba.prog 6 #[.slice a len cap, .int .i64 k] w fun e w' => e = .returned (rdr a len cap k) ∧ Below w.heap.size w w' := by
  have hm := mask_eq k hk
  have HM : Hid (IntKind.u64.wrap (IntKind.u64.wrap (2 ^ k) - 1) = ((2 ^ k - 1 : Nat) : Int)) := hm
  clear hm
  go_enter Yba.func6, Yba.ntmps6
  go_wp2
  rw [HM.out]
  exact bodyPost_ret (v := rdr a len cap k) (by simp [results, Yba.results6, go_sem]) rfl ⟨rfl, (Below.refl _ _).alloc (Nat.le_refl _) _⟩

theorem le_congr (f g : Nat → Nat) : ∀ n b c, (∀ j, j < n → f (b + j) = g (c + j)) → le f b n = le g c n
  | 0, _, _, _ => rfl
  | n + 1, b, c, h => by
    have h0 := h 0 (by omega)
    simp only [Nat.add_zero] at h0
    rw [le, le, h0, le_congr f g n (b + 1) (c + 1) (fun j hj => by have := h (j + 1) (by omega); rw [show b + 1 + j = b + (j + 1) from by omega, show c + 1 + j = c + (j + 1) from by omega]; exact this)]

theorem le_lt (z : Nat → Nat) (hz : ∀ i, z i < 256) : ∀ n b, le z b n < 256 ^ n
  | 0, _ => by simp [le]
  | n + 1, b => by
    have h := le_lt z hz n (b + 1)
    have hb := hz b
    rw [le, Nat.pow_succ]
    omega

theorem get_val (f : Nat → Nat) (hf : ∀ i, f i < 256) (r k : Nat) (hk : k ≤ 32) : IntKind.u32.wrap (bits BinOp.and IntKind.u64 (((le f 0 8 : Nat) : Int) / 2 ^ r) ((2 ^ k - 1 : Nat) : Int)) = ((le f 0 8 / 2 ^ r % 2 ^ k : Nat) : Int) := by
  have hl := le_lt f hf 8 0
  have e : (((le f 0 8 : Nat) : Int) / 2 ^ r) = ((le f 0 8 / 2 ^ r : Nat) : Int) := by simp
  have hd : le f 0 8 / 2 ^ r ≤ le f 0 8 := Nat.div_le_self _ _
  have hle : 2 ^ k ≤ 4294967296 := Nat.pow_le_pow_right (n := 2) (by omega) hk
  have hpos : 0 < 2 ^ k := Nat.pow_pos (by omega)
  have hm : le f 0 8 / 2 ^ r % 2 ^ k < 2 ^ k := Nat.mod_lt _ hpos
  rw [e, u64_and_nat _ _ (by omega) (by omega), Nat.and_two_pow_sub_one_eq_mod]
  generalize le f 0 8 / 2 ^ r % 2 ^ k = y at hm
  generalize 2 ^ k = x at hm hle
  rw [IntKind.wrap_u32']
  omega

/-- What both ways of Get come to. -/
theorem get_fin (z f : Nat → Nat) (len q r p k : Nat) (hz : ∀ i, z i < 256) (hf : ∀ i, f i < 256) (hfz : ∀ j, j < 8 → f j = pad z len (q + j)) (hr : r < 8) (hk : k ≤ 32) (hp : p = 8 * q + r) :
    IntKind.u32.wrap (bits BinOp.and IntKind.u64 (((le f 0 8 : Nat) : Int) / 2 ^ r) ((2 ^ k - 1 : Nat) : Int)) = ((modelN (pad z len) p k : Nat) : Int) := by
  rw [get_val f hf r k hk, le_congr f (pad z len) 8 0 q (fun j hj => by rw [Nat.zero_add]; exact hfz j hj)]
  rw [get_is_model (pad z len) (fun i => by unfold pad; split; exact hz i; omega) q r k hr hk, hp]

set_option maxRecDepth 20000 in
set_option maxHeartbeats 1000000 in
theorem get_fast (b off len cap k i p q r : Nat) (z : Nat → Nat) (w : World) (hlen : len ≤ 4096) (hcap : len ≤ cap) (hc : ∀ i, i < len → w.cell? ⟨b, off + i, none⟩ = some (.int .u8 (z i))) (hz : ∀ i, z i < 256) (hk : k ≤ 32) (hi : i ≤ 40000) (hp : (i : Int) * (k : Int) = (p : Int)) (hp2 : p ≤ 40000)
    (hq : (p : Int) / 8 = (q : Int)) (hr : (p : Int) % 8 = (r : Int)) (hfast : q + 8 ≤ len) :
    Calls Yba.prog 7 #[rdr (some ⟨b, off, none⟩) len cap k, .int .i64 i] w fun e w' => e = .returned (.int .u32 (modelN (pad z len) p k : Nat)) ∧ Below w.heap.size w w' := by
  have hq1 : (q : Int) ≤ (len : Int) := by omega
  have hq0 : (0 : Int) ≤ (q : Int) := by omega
  have hcq : ¬ cap = q := by omega
  have hr8 : r < 8 := by omega
  have hrt : (p : Int).tmod 8 = (r : Int) := by rw [Int.tmod_eq_emod_of_nonneg (by omega)]; exact hr
  have hcs : ∀ o j, j < 8 → (w.alloc o).drew.cell? ⟨b, off + q + j, none⟩ = some (.int .u8 (z (q + j))) := fun o j hj => by
    have := cell_new o (hc (q + j) (by omega)); rw [← Nat.add_assoc] at this; exact this
  have hz' : ∀ j, z (q + j) < 256 := fun j => hz _
  have HF : Hid (IntKind.u32.wrap (bits BinOp.and IntKind.u64 (((le (fun j => z (q + j)) 0 8 : Nat) : Int) / 2 ^ r) ((2 ^ k - 1 : Nat) : Int)) = ((modelN (pad z len) p k : Nat) : Int)) :=
    get_fin z (fun j => z (q + j)) len q r p k hz hz' (fun j hj => by unfold pad; rw [if_pos (by omega)]) hr8 hk (by omega)
  clear hc hz
  go_enter Yba.func7, Yba.ntmps7
  go_wp2
  go_region_held3 (fun w' => w'.cell? ⟨w.heap.size, 0, none⟩ = some (.slice (some ⟨b, off, none⟩) len cap) ∧ w'.cell? ⟨w.heap.size, 2, none⟩ = some (.int .u64 ((2 ^ k - 1 : Nat) : Int))) (go_keep)
    (first | (go_at_call 11; refine (uint64_any b (off + q) (len - q) (cap - q) (fun j => z (q + j)) _ (by omega) hz' (fun j hj => hcs _ j hj)).mono ?_; rintro e w1 ⟨rfl, n1, rfl⟩))
  go_wp2
  go_ret
  exact ⟨ret_int HF.out, below_drewN (((Below.refl _ _).alloc (Nat.le_refl _) _).alloc (by simp) _) _⟩

theorem cell_new2 {w : World} {a : Addr} {v : Value} (o1 o2 : Obj) (h : w.cell? a = some v) : ((w.alloc o1).alloc o2).cell? a = some v := cell_new o2 (cell_new o1 h)

/-- The reader's box and the tail's. -/
abbrev rbox (a : Option Addr) (len cap k : Nat) : Obj := .cells #[.slice a len cap, .int .u64 (k : Nat), .int .u64 ((2 ^ k - 1 : Nat) : Int)] 27
abbrev zeros8 : Array Value := #[.int .u8 0, .int .u8 0, .int .u8 0, .int .u8 0, .int .u8 0, .int .u8 0, .int .u8 0, .int .u8 0]

theorem zeros8_get : ∀ i, i < 8 → zeros8.toList[i]? = some (.int .u8 0) := by
  intro i hi
  match i, hi with
  | 0, _ => rfl
  | 1, _ => rfl
  | 2, _ => rfl
  | 3, _ => rfl
  | 4, _ => rfl
  | 5, _ => rfl
  | 6, _ => rfl
  | 7, _ => rfl

theorem tail_get (z : Nat → Nat) (len q : Nat) (hq1 : q < len) (hslow : len < q + 8) (j : Nat) (hj : j < 8) :
    (List.take 0 zeros8.toList ++ byteCells (fun j => z (q + j)) (len - q) ++ List.drop (0 + (len - q)) zeros8.toList).toArray[j]? = some (.int .u8 ((pad z len (q + j) : Nat) : Int)) := by
  have hlenc : (byteCells (fun j => z (q + j)) (len - q)).length = len - q := byteCells_length _ _
  rw [List.getElem?_toArray, List.take_zero, List.nil_append]
  by_cases hjl : j < len - q
  · rw [List.getElem?_append_left (by rw [hlenc]; exact hjl), byteCells_get _ _ j hjl]
    unfold pad
    rw [if_pos (by omega)]
  · rw [List.getElem?_append_right (by rw [hlenc]; omega), hlenc, List.getElem?_drop, zeros8_get _ (by omega)]
    unfold pad
    rw [if_neg (by omega)]
    rfl

/-- What the copy into the tail leaves. -/
theorem tail_copy (b off len cap k q : Nat) (z : Nat → Nat) (w : World) (hc : ∀ i, i < len → w.cell? ⟨b, off + i, none⟩ = some (.int .u8 (z i))) (hq1 : q < len) (hslow : len < q + 8) :
    ∃ wf : World, (∀ ty, (Builtin.copy_ #[22, 22] ty #[.slice (some ⟨w.heap.size + 1, 0, none⟩) 8 8, .slice (some ⟨b, off + q, none⟩) (len - q) (cap - q)]).run Yba.prog ((w.alloc (rbox (some ⟨b, off, none⟩) len cap k)).alloc (.cells zeros8 39)).drew = .ok (goInt (len - q : Nat)) wf) ∧
      (∀ j, j < 8 → wf.cell? ⟨w.heap.size + 1, 0 + j, none⟩ = some (.int .u8 ((pad z len (q + j) : Nat) : Int))) ∧ wf.cell? ⟨w.heap.size, 2, none⟩ = some (.int .u64 ((2 ^ k - 1 : Nat) : Int)) ∧ w.heap.size + 2 ≤ wf.heap.size ∧ Below w.heap.size w wf := by
  have hblk : ((w.alloc (rbox (some ⟨b, off, none⟩) len cap k)).alloc (.cells zeros8 39)).drew.heap[w.heap.size + 1]? = some (.cells zeros8 39 (0, 0)) := by
    show ((w.heap.push _).push _)[w.heap.size + 1]? = _
    simp only [Array.getElem?_push, Array.size_push]
    rw [if_pos trivial]
  have hbx : ((w.alloc (rbox (some ⟨b, off, none⟩) len cap k)).alloc (.cells zeros8 39)).drew.heap[w.heap.size]? = some (rbox (some ⟨b, off, none⟩) len cap k) := by
    show ((w.heap.push _).push _)[w.heap.size]? = _
    simp only [Array.getElem?_push, Array.size_push]
    rw [if_neg (by omega), if_pos trivial]
  have hlenc : (byteCells (fun j => z (q + j)) (len - q)).length = len - q := byteCells_length _ _
  have hcp := fun ty => run_copy_row (P := Yba.prog) ((w.alloc (rbox (some ⟨b, off, none⟩) len cap k)).alloc (.cells zeros8 39)).drew 22 22 ty 5 (w.heap.size + 1) 0 8 8 ⟨b, off + q, none⟩ (len - q) (cap - q) zeros8 39 (byteCells (fun j => z (q + j)) (len - q)) Yba.underlying22 size5 hblk
    (by rw [hlenc]; exact (Nat.min_eq_left (by omega)).symm)
    (fun j v hj => by
      have hjl : j < len - q := by have := (List.getElem?_eq_some_iff.1 hj).1; rwa [hlenc] at this
      rw [byteCells_get _ _ j hjl] at hj
      have := cell_new2 (rbox (some ⟨b, off, none⟩) len cap k) (.cells zeros8 39) (hc (q + j) (by omega))
      rw [← Nat.add_assoc] at this
      rw [Addr.add_lit]
      exact this.trans hj)
    (by rw [hlenc]; show 0 + (len - q) ≤ 8; omega) (fun v hv => by obtain ⟨_, _, rfl⟩ := List.mem_map.1 hv; rfl)
  rw [hlenc] at hcp
  have hget : ∀ j, j < 8 → (List.take 0 zeros8.toList ++ byteCells (fun j => z (q + j)) (len - q) ++ List.drop (0 + (len - q)) zeros8.toList).toArray[j]? = some (.int .u8 ((pad z len (q + j) : Nat) : Int)) := tail_get z len q hq1 hslow
  generalize (List.take 0 zeros8.toList ++ byteCells (fun j => z (q + j)) (len - q) ++ List.drop (0 + (len - q)) zeros8.toList).toArray = R at hcp hget
  refine ⟨_, hcp, fun j hj => ?_, ?_, ?_, ?_⟩
  · have hfin := setRow_heap _ (w.heap.size + 1) zeros8 R 39 (0, 0) hblk
    rw [Nat.zero_add j]
    unfold World.cell?
    rw [hfin]
    exact hget j hj
  · have h1 := setRow_other ((w.alloc (rbox (some ⟨b, off, none⟩) len cap k)).alloc (.cells zeros8 39)).drew (w.heap.size + 1) w.heap.size R (by omega)
    rw [World.cell?_of_block (a := ⟨w.heap.size, 2, none⟩) h1]
    unfold World.cell?
    rw [hbx]
    rfl
  · simp [World.setRow]
  · exact below_setRow (Below.drew (((Below.refl _ _).alloc (Nat.le_refl _) _).alloc (by simp) _)) (by omega) _

set_option maxRecDepth 20000 in
set_option maxHeartbeats 1000000 in
theorem get_slow (b off len cap k i p q r : Nat) (z : Nat → Nat) (w : World) (hlen : len ≤ 4096) (hcap : len ≤ cap) (hc : ∀ i, i < len → w.cell? ⟨b, off + i, none⟩ = some (.int .u8 (z i))) (hz : ∀ i, z i < 256) (hk : k ≤ 32) (hi : i ≤ 40000) (hp : (i : Int) * (k : Int) = (p : Int)) (hp2 : p ≤ 40000)
    (hq : (p : Int) / 8 = (q : Int)) (hr : (p : Int) % 8 = (r : Int)) (hq1 : q < len) (hslow : len < q + 8) :
    Calls Yba.prog 7 #[rdr (some ⟨b, off, none⟩) len cap k, .int .i64 i] w fun e w' => e = .returned (.int .u32 (modelN (pad z len) p k : Nat)) ∧ Below w.heap.size w w' := by
  have hqi : (q : Int) ≤ (len : Int) := by omega
  have hq0 : (0 : Int) ≤ (q : Int) := by omega
  have hcq : ¬ cap = q := by omega
  have hr8 : r < 8 := by omega
  have hrt : (p : Int).tmod 8 = (r : Int) := by rw [Int.tmod_eq_emod_of_nonneg (by omega)]; exact hr
  have HF : Hid (IntKind.u32.wrap (bits BinOp.and IntKind.u64 (((le (fun j => pad z len (q + j)) 0 8 : Nat) : Int) / 2 ^ r) ((2 ^ k - 1 : Nat) : Int)) = ((modelN (pad z len) p k : Nat) : Int)) :=
    get_fin z (fun j => pad z len (q + j)) len q r p k hz (fun j => by show pad z len (q + j) < 256; unfold pad; split; exact hz _; omega) (fun j hj => rfl) hr8 hk (by omega)
  have hpz : ∀ j, pad z len (q + j) < 256 := fun j => by unfold pad; split; exact hz _; omega
  obtain ⟨wf, hcp, htail, hmask, hsz, hbel⟩ := tail_copy b off len cap k q z w hc hq1 hslow
  clear hc
  go_enter Yba.func7, Yba.ntmps7
  go_wp2
  go_region
  go_wp2
  go_region_held3 (fun w' => w'.cell? ⟨w.heap.size, 2, none⟩ = some (.int .u64 ((2 ^ k - 1 : Nat) : Int))) (go_keep)
    (first | (go_at_call 11; refine (uint64_any (w.heap.size + 1) 0 8 8 (fun j => pad z len (q + j)) _ (by omega) hpz (fun j hj => by exact htail j hj)).mono ?_; rintro e w1 ⟨rfl, n1, rfl⟩))
  go_wp2
  go_ret
  exact ⟨ret_int HF.out, below_drewN (hbel.alloc (by omega) _) _⟩

/-- The tail's cells where nothing is copied. -/
theorem tail_zero (z : Nat → Nat) (len : Nat) (w : World) (o : Obj) (j : Nat) (hj : j < 8) : ((w.alloc o).alloc (.cells zeros8 39)).drew.cell? ⟨w.heap.size + 1, 0 + j, none⟩ = some (.int .u8 ((pad z len (len + j) : Nat) : Int)) := by
  have hblk : ((w.alloc o).alloc (.cells zeros8 39)).drew.heap[w.heap.size + 1]? = some (.cells zeros8 39 (0, 0)) := by
    show ((w.heap.push _).push _)[w.heap.size + 1]? = _
    simp only [Array.getElem?_push, Array.size_push]
    rw [if_pos trivial]
  unfold World.cell?
  rw [hblk]
  show zeros8[0 + j]? = _
  rw [Nat.zero_add]
  have h := zeros8_get j hj
  rw [Array.getElem?_toList] at h
  rw [h]
  unfold pad
  rw [if_neg (by omega)]
  rfl

set_option maxRecDepth 20000 in
set_option maxHeartbeats 1000000 in
theorem get_end (a : Option Addr) (len k i p r : Nat) (z : Nat → Nat) (w : World) (hlen : len ≤ 4096) (ha : (a = none ∧ len = 0) ∨ ∃ g, a = some ⟨g, 0, none⟩) (hz : ∀ i, z i < 256) (hk : k ≤ 32) (hi : i ≤ 40000) (hp : (i : Int) * (k : Int) = (p : Int)) (hp2 : p ≤ 40000)
    (hq : (p : Int) / 8 = (len : Int)) (hr : (p : Int) % 8 = (r : Int)) :
    Calls Yba.prog 7 #[rdr a len len k, .int .i64 i] w fun e w' => e = .returned (.int .u32 (modelN (pad z len) p k : Nat)) ∧ Below w.heap.size w w' := by
  have hr8 : r < 8 := by omega
  have hrt : (p : Int).tmod 8 = (r : Int) := by rw [Int.tmod_eq_emod_of_nonneg (by omega)]; exact hr
  have hpz : ∀ j, pad z len (len + j) < 256 := fun j => by unfold pad; split; exact hz _; omega
  have HF : Hid (IntKind.u32.wrap (bits BinOp.and IntKind.u64 (((le (fun j => pad z len (len + j)) 0 8 : Nat) : Int) / 2 ^ r) ((2 ^ k - 1 : Nat) : Int)) = ((modelN (pad z len) p k : Nat) : Int)) :=
    get_fin z (fun j => pad z len (len + j)) len len r p k hz hpz (fun j hj => rfl) hr8 hk (by omega)
  have htail := tail_zero z len w
  have hcp := fun w ty d s => run_copy_none (P := Yba.prog) w 22 22 ty 5 d s 8 8 0 0 Yba.underlying22 size5 rfl
  rcases ha with ⟨rfl, rfl⟩ | ⟨g, rfl⟩
  · have HN : Hid (IntKind.u32.wrap (bits BinOp.and IntKind.u64 (((le (fun j => pad z 0 j) 0 8 : Nat) : Int) / 2 ^ r) ((2 ^ k - 1 : Nat) : Int)) = ((modelN (pad z 0) p k : Nat) : Int)) := by
      have h := HF.out
      simp only [Nat.zero_add] at h
      exact h
    go_enter Yba.func7, Yba.ntmps7
    go_wp2
    go_region
    go_wp2
    go_region_held3 (fun w' => w'.cell? ⟨w.heap.size, 2, none⟩ = some (.int .u64 ((2 ^ k - 1 : Nat) : Int))) (go_keep)
      (first | (go_at_call 11; refine (uint64_any (w.heap.size + 1) 0 8 8 (fun j => pad z 0 (0 + j)) _ (by omega) hpz (fun j hj => by exact htail _ j hj)).mono ?_; rintro e w1 ⟨rfl, n1, rfl⟩))
    go_wp2
    go_ret
    exact ⟨ret_int HN.out, below_drewN ((((Below.refl _ _).alloc (Nat.le_refl _) _).alloc (by simp) _).alloc (by simp; omega) _) _⟩
  · go_enter Yba.func7, Yba.ntmps7
    go_wp2
    go_region
    go_wp2
    go_region_held3 (fun w' => w'.cell? ⟨w.heap.size, 2, none⟩ = some (.int .u64 ((2 ^ k - 1 : Nat) : Int))) (go_keep)
      (first | (go_at_call 11; refine (uint64_any (w.heap.size + 1) 0 8 8 (fun j => pad z len (len + j)) _ (by omega) hpz (fun j hj => by exact htail _ j hj)).mono ?_; rintro e w1 ⟨rfl, n1, rfl⟩))
    go_wp2
    go_ret
    exact ⟨ret_int HF.out, below_drewN ((((Below.refl _ _).alloc (Nat.le_refl _) _).alloc (by simp) _).alloc (by simp; omega) _) _⟩

theorem get_any (a : Option Addr) (len cap k i p : Nat) (z : Nat → Nat) (w : World) (hlen : len ≤ 4096) (hr : Own w a len cap z) (hz : ∀ i, z i < 256) (hk : k ≤ 32) (hi : i ≤ 40000) (hp : i * k = p) (hp2 : p ≤ 8 * len) :
    Calls Yba.prog 7 #[rdr a len cap k, .int .i64 i] w fun e w' => e = .returned (.int .u32 (modelN (pad z len) p k : Nat)) ∧ Below w.heap.size w w' := by
  have hpi : (i : Int) * (k : Int) = (p : Int) := by rw [← hp, Int.natCast_mul]
  by_cases hend : p / 8 = len
  · have hcap : cap = len := by
      rcases hr with ⟨_, h0, h1⟩ | ⟨g, _, h, _, _⟩
      · omega
      · exact h
    subst hcap
    refine get_end a cap k i p (p % 8) z w hlen ?_ hz hk hi hpi (by omega) (by omega) (by omega)
    rcases hr with ⟨h, h0, _⟩ | ⟨g, h, _, _, _⟩
    · exact .inl ⟨h, h0⟩
    · exact .inr ⟨g, h⟩
  · rcases hr with ⟨_, h0, _⟩ | ⟨g, rfl, rfl, _, hc⟩
    · omega
    · by_cases hf : p / 8 + 8 ≤ cap
      · exact get_fast g 0 cap cap k i p (p / 8) (p % 8) z w hlen (Nat.le_refl _) hc hz hk hi hpi (by omega) (by omega) (by omega) hf
      · exact get_slow g 0 cap cap k i p (p / 8) (p % 8) z w hlen (Nat.le_refl _) hc hz hk hi hpi (by omega) (by omega) (by omega) (by omega) (by omega)
end Go.Proofs.Ybulkbkbs
