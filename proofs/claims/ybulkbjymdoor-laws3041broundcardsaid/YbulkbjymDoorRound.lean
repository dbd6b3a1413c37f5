/- The contract of encodeStateAsk; the walk of LawS3041BRound. -/
import Derived.Test.YbulkbjymDoorPlain
import Derived.Test.YbulkbjymDoorLaid
namespace Go.Proofs.YbulkbjymDoor
open Go.RowKit
set_option linter.unusedVariables false

/-- A slice that the call itself made holds the bytes L. -/
def Holds (w0 w : World) (v : Value) (L : List Int) : Prop := w.ownsRow w0.heap.size 5 1 v L.length (cellsU8 L)

theorem cell_of_own {w : World} {base g n cap : Nat} {L : List Int} (h : w.ownsRow base 5 1 (.slice (some ⟨g, 0, none⟩) n cap) n (cellsU8 L)) (i : Nat) (hi : i < n) : w.cell? ⟨g, 0 + i, none⟩ = some (.int .u8 (L.getD i 0)) := by
  have hl : L.length = n := by have := h.1; simpa [cellsU8] using this
  rw [Nat.zero_add, h.cellAt i (by omega)]
  simp [cellsU8, List.getD_eq_getElem?_getD, List.getElem?_eq_getElem (show i < L.length by omega)]

theorem cap_of_own {w : World} {base g n cap : Nat} {xs : List Value} (h : w.ownsRow base 5 1 (.slice (some ⟨g, 0, none⟩) n cap) n xs) : n ≤ cap := by
  rcases h.2 with ⟨h1, _⟩ | ⟨g', cap', cur, h1, _, _, h2, _⟩
  · cases h1
  · injection h1 with _ _ h3
    omega

/-- What encodeStateAsk hands back. -/
def EncPost (r b : Int) (w : World) (e : Ending) (w' : World) : Prop :=
  ∃ t g cap, e = .returned (.slice (some ⟨g, 0, none⟩) (t + 2) cap) ∧ (∀ j, j < t → 128 ≤ rest r j) ∧ rest r t < 128 ∧ t ≤ 9 ∧
    w'.ownsRow w.heap.size 5 1 (.slice (some ⟨g, 0, none⟩) (t + 2) cap) (t + 2) (cellsU8 (encTo r t ++ rest r t :: [b])) ∧ Below w.heap.size w w'

theorem snoc_form (l : List Int) (x b : Int) : l ++ [x] ++ [b] = l ++ x :: [b] := by simp

set_option maxHeartbeats 1000000 in
theorem encode_any (r : Int) (whole : Bool) (w : World) (h0 : 0 ≤ r) (hr : r ≤ 9223372036854775807) :
    Calls Ybad.prog 9 #[.int .i64 r, .bool whole] w (EncPost r (if whole then 1 else 0) w) := by
  obtain ⟨i, hi, hz0, hz1, hz2⟩ := info_parts info5
  cases whole
  all_goals
    go_enter Ybad.func9, Ybad.ntmps9
    go_wp2_with fail
    refine (appendUvarint_any r w h0 (by omega)).mono ?_
    rintro e w1 ⟨t, g, cap, rfl, hbig, hsm, ht9, hown, hb⟩
    have Hbig : Hid (∀ j, j < t → 128 ≤ rest r j) := hbig
    clear hbig
    have hbs := hb.size
  · go_wp2_with (at_builtin; refine wpList_append_lies _ rfl _ _ _ rfl w.heap.size 5 i (.int .u8 0) 1 1 Ybad.underlying22 hi hz0 hz1 hz2 rfl (by omega) _ (t + 1) _ rfl (hown.alloc _) ⟨w1.heap.size, 0, none⟩ 1 1 [.int .u8 0] rfl rfl (cell_one_new _ _ _) (fun x hx => by simp at hx; subst hx; rfl) (by omega) (by unfold maxLen; omega) (by omega) (by simp; omega) _ rfl ?_; intro g2 cap2 w2 hown2 hgrow2 hat hlt)
    have hb2 : Below w.heap.size w w2 := (hb.alloc hbs _).grown hgrow2 (by simp; omega) (fun q hq => (hown.lt q hq).1)
    rw [cellsU8_snoc, snoc_form] at hown2
    go_ret
    exact ⟨t, g2, cap2, rfl, Hbig.out, hsm, ht9, hown2, hb2⟩
  · go_wp2_with (at_builtin; refine wpList_append_lies _ rfl _ _ _ rfl w.heap.size 5 i (.int .u8 0) 1 1 Ybad.underlying22 hi hz0 hz1 hz2 rfl (by omega) _ (t + 1) _ rfl (hown.alloc _) ⟨w1.heap.size, 0, none⟩ 1 1 [.int .u8 1] rfl rfl (cell_one_new _ _ _) (fun x hx => by simp at hx; subst hx; rfl) (by omega) (by unfold maxLen; omega) (by omega) (by simp; omega) _ rfl ?_; intro g2 cap2 w2 hown2 hgrow2 hat hlt)
    have hb2 : Below w.heap.size w w2 := (hb.alloc hbs _).grown hgrow2 (by simp; omega) (fun q hq => (hown.lt q hq).1)
    rw [cellsU8_snoc, snoc_form] at hown2
    go_ret
    exact ⟨t, g2, cap2, rfl, Hbig.out, hsm, ht9, hown2, hb2⟩

/-- The bytes that were put are bytes. -/
theorem bytes_bounds (v : Int) (t : Nat) (tail : List Int) (h0 : 0 ≤ v) (hsm : rest v t < 128) (htail : ∀ x ∈ tail, 0 ≤ x ∧ x ≤ 255) (i : Nat) : 0 ≤ (encTo v t ++ rest v t :: tail).getD i 0 ∧ (encTo v t ++ rest v t :: tail).getD i 0 ≤ 255 := by
  rw [List.getD_eq_getElem?_getD]
  rcases Nat.lt_or_ge i t with h | h
  · rw [List.getElem?_append_left (by rw [encTo_length]; exact h), encTo_get _ _ _ h]
    obtain ⟨n, rfl⟩ := Int.eq_ofNat_of_zero_le h0
    have hb := hib_bounds (n / 128 ^ i)
    rw [← rest_nat] at hb
    show 0 ≤ hib _ ∧ hib _ ≤ 255
    omega
  · rw [List.getElem?_append_right (by rw [encTo_length]; exact h), encTo_length]
    cases hi : i - t with
    | zero =>
      have := rest_nn v h0 t
      show 0 ≤ rest v t ∧ rest v t ≤ 255
      omega
    | succ j =>
      rw [List.getElem?_cons_succ]
      cases hj : tail[j]? with
      | none => exact ⟨Int.le_refl _, by show (0 : Int) ≤ 255; omega⟩
      | some x => exact htail x (List.mem_of_getElem? hj)

theorem last_byte (v : Int) (t : Nat) (b : Int) (tail : List Int) : (encTo v t ++ rest v t :: b :: tail).getD (t + 1) 0 = b := by
  rw [List.getD_eq_getElem?_getD, List.getElem?_append_right (by rw [encTo_length]; omega), encTo_length]
  simp [show t + 1 - t = 1 from by omega]

set_option maxHeartbeats 1000000 in
theorem round_walk (r : Int) (whole : Bool) (w : World) (hr0 : -9223372036854775808 ≤ r) (hr : r ≤ 9223372036854775807) :
    Calls Ybad.prog 5 #[.int .i64 r, .bool whole] w fun e w' => e = .returned (.bool true) ∧ Below w.heap.size w w' := by
  by_cases hneg : r < 0
  · go_enter Ybad.func5, Ybad.ntmps5
    go_wp2_with fail
    go_ret
    exact ⟨rfl, Below.refl _ _⟩
  · have h0 : 0 ≤ r := by omega
    go_enter Ybad.func5, Ybad.ntmps5
    go_wp2_with fail
    refine (encode_any r whole w h0 hr).mono ?_
    rintro e w1 ⟨t, g, cap, rfl, hbig, hsm, ht9, hown, hb⟩
    have hP := put_reads r t _ [if whole then 1 else 0] h0 (by omega) hbig hsm ht9 rfl
    have hl := last_byte r t (if whole then 1 else 0) []
    have hbd := bytes_bounds r t [if whole then 1 else 0] h0 hsm (fun x hx => by cases whole <;> simp at hx <;> omega)
    have hcells := cell_of_own hown
    have hcap := cap_of_own hown
    generalize encTo r t ++ rest r t :: [if whole then 1 else 0] = L at hP hl hbd hcells
    obtain ⟨hT, hval⟩ := hP
    have HT : Hid (Term (fun i => L.getD i 0) t) := hT
    have Hval : Hid (val (fun i => L.getD i 0) t = r) := hval
    have Hl : Hid (L.getD (t + 1) 0 = if whole then 1 else 0) := hl
    clear hT hval hl hbig hown
    have hdec := dec_ok g 0 cap t (fun i => L.getD i 0) w1 hcap hcells hbd HT.out (by rw [Hval.out]; exact hr) (by show L.getD (t + 1) 0 ≤ 1; rw [Hl.out]; split <;> omega)
    rw [Hval.out] at hdec
    have hbit : (L.getD (t + 1) 0 == 1) = whole := by rw [Hl.out]; cases whole <;> rfl
    simp only [hbit] at hdec
    have Hdec := hdec
    clear hdec hcells hbd
    go_wp2_with fail
    refine (Hdec).mono ?_
    rintro e w2 ⟨rfl, hb2⟩
    clear Hdec
    go_wp2_with fail
    go_ret
    exact ⟨rfl, hb.trans (hb2.mono hb.size)⟩
end Go.Proofs.YbulkbjymDoor
