/- The walk of LawS3041BBuilt. -/
import Derived.Test.YbulkbjymDoorRound
namespace Go.Proofs.YbulkbjymDoor
open Go.RowKit
set_option linter.unusedVariables false

theorem term_unique {z : Nat → Int} {s t : Nat} (hs : Term z s) (ht : Term z t) : s = t := by
  rcases Nat.lt_trichotomy s t with h | h | h
  · have h1 := ht.big s h
    have h2 := hs.small
    omega
  · exact h
  · have h1 := hs.big t h
    have h2 := ht.small
    omega

/-- The tail's bytes as a list. -/
def tailOf (z : Nat → Int) (len : Nat) : List Int := (List.range len).map z
theorem tailOf_length (z : Nat → Int) (len : Nat) : (tailOf z len).length = len := by simp [tailOf]
theorem tail_news {w : World} {b off len : Nat} {z : Nat → Int} (hc : ∀ i, i < len → w.cell? ⟨b, off + i, none⟩ = some (.int .u8 (z i))) :
    ∀ j u, (cellsU8 (tailOf z len))[j]? = some u → w.cell? ((⟨b, off, none⟩ : Addr).add j) = some u := by
  intro j u hu
  have hj : j < len := by
    have := (List.getElem?_eq_some_iff.1 hu).1
    simpa [cellsU8, tailOf] using this
  rw [Addr.add_lit, hc j hj]
  have e : (cellsU8 (tailOf z len))[j]? = some (.int .u8 (z j)) := by simp [cellsU8, tailOf, hj]
  rw [e] at hu
  exact hu
theorem u8_oneCell (l : List Int) : ∀ u ∈ cellsU8 l, u.oneCell' = true := ints_oneCell .u8 l

theorem join_form (l : List Int) (x b : Int) (T : List Int) : cellsU8 (l ++ x :: [b]) ++ cellsU8 T = cellsU8 (l ++ x :: b :: T) := by simp [cellsU8]

theorem cells_len (l : List Int) (n : Nat) (h : l.length = n) : (cellsU8 l).length = n * 1 := by simp [cellsU8, h]

/-- The bytes are no good ask. -/
theorem built_bad (v x : Int) (t : Nat) (T : List Int) (h0 : 0 ≤ v) (hv : v ≤ 18446744073709551615) (hbig : ∀ j, j < t → 128 ≤ rest v j) (hsm : rest v t < 128) (ht : t ≤ 9)
    (hbad : 9223372036854775807 < v ∨ 1 < x ∨ 0 < T.length) (s : Nat) : ¬ Good (fun i => (encTo v t ++ rest v t :: x :: T).getD i 0) (t + 2 + T.length) s := by
  intro hG
  obtain ⟨hT, hval⟩ := put_reads v t _ (x :: T) h0 hv hbig hsm ht rfl
  have e := term_unique hG.term hT
  subst e
  have h1 := hG.size
  have h2 := hG.int
  have h3 := hG.bit
  rw [hval] at h2
  have h4 := last_byte v s x T
  rw [h4] at h3
  omega

/-- A nil slice has no capacity: behind a name, so that the walk leaves it as it is. -/
def NilCap (ad : Option Addr) (cap : Nat) : Prop := ad = none → (0 : Nat) = 0 ∧ cap = 0
theorem nil_cap {ad : Option Addr} {cap : Nat} (h : NilCap ad cap) : ad = none → (0 : Nat) = 0 ∧ cap = 0 := h

set_option maxHeartbeats 1000000 in
theorem built_walk (v x : Int) (ad : Option Addr) (len cap : Nat) (z : Nat → Int) (w : World) (a : Addr) (hg : w.cell? ⟨0, 0, none⟩ = some (.iface 46 (.pointer (some a)))) (hv0 : 0 ≤ v) (hv : v ≤ 18446744073709551615) (hx0 : 0 ≤ x) (hx : x ≤ 255)
    (hlen9 : len ≤ 9223372036854775807) (hcap : len ≤ cap) (hr : Row w ad len cap z) (hz : ∀ i, 0 ≤ z i ∧ z i ≤ 255) :
    Calls Ybad.prog 4 #[.int .u64 v, .int .u8 x, .slice ad len cap] w fun e w' => e = .returned (.bool true) ∧ Below w.heap.size w w' := by
  obtain ⟨i, hi, hz0, hz1, hz2⟩ := info_parts info5
  by_cases hbig : 1024 < len
  · have hd : decide ((1024 : Int) < (len : Int)) = true := by simp; omega
    go_enter Ybad.func4, Ybad.ntmps4
    go_wp2_with fail
    go_ret
    exact ⟨rfl, Below.refl _ _⟩
  · have hd : decide ((1024 : Int) < (len : Int)) = false := by simp; omega
    by_cases hl0 : len = 0
    · subst hl0
      have hnil : NilCap ad cap := by
        rcases hr with ⟨_, h⟩ | ⟨b, off, rfl, _⟩
        · intro e; exact ⟨rfl, h (by rw [e]; rfl)⟩
        · intro e; cases e
      clear hd hbig hlen9 hr
      by_cases hgood : v ≤ 9223372036854775807 ∧ x ≤ 1
      · obtain ⟨hvi, hxi⟩ := hgood
        go_enter Ybad.func4, Ybad.ntmps4
        go_wp2_with fail
        refine (put_any v w hv0 hv).mono ?_
        rintro e w1 ⟨t, g, cap1, rfl, hbg, hsm, ht9, hown, hb⟩
        have Hbig : Hid (∀ j, j < t → 128 ≤ rest v j) := hbg
        clear hbg
        have hbs := hb.size
        have tok1 : True := trivial
        go_wp2_with (first
          | (at_builtin; have _t := tok1; refine wpList_append_lies _ rfl _ _ _ rfl w.heap.size 5 i (.int .u8 0) 1 1 Ybad.underlying22 hi hz0 hz1 hz2 rfl (by omega) _ (t + 1) _ rfl (hown.alloc _) ⟨w1.heap.size, 0, none⟩ 1 1 [.int .u8 x] rfl rfl (cell_one_new _ _ _) (fun x hx => by simp at hx; subst hx; rfl) (by omega) (by unfold maxLen; omega) (by omega) (by simp; omega) _ rfl ?_; intro g2 cap2 w2 hown2 hgrow2 hat hlt; clear tok1; have hcap2 := cap_of_own hown2)
          | (at_builtin; refine wpList_append_fits_any _ rfl _ _ _ rfl w.heap.size 5 i 1 Ybad.underlying22 hi hz1 g2 (t + 1 + 1) cap2 _ rfl hown2 ad 0 cap [] rfl rfl (nil_cap hnil) (fun _ _ j u hu => by simp at hu) (fun _ hu => by simp at hu) hcap2 ?_; intro w3 hown3 hgrow3))
        have hb2 : Below w.heap.size w w2 := (hb.alloc hbs _).grown hgrow2 (by simp; omega) (fun q hq => (hown.lt q hq).1)
        have hb3 : Below w.heap.size w w3 := hb2.grown hgrow3 hb2.size (fun q hq => by cases hq; exact (hown2.lt g2 rfl).1)
        have hown4 : w3.ownsRow w.heap.size 5 1 (.slice (some ⟨g2, 0, none⟩) (t + 2) cap2) (t + 2) (cellsU8 (encTo v t ++ rest v t :: [x])) := by
          rw [List.append_nil, cellsU8_snoc, snoc_form] at hown3; exact hown3
        have hP := put_reads v t _ [x] hv0 hv Hbig.out hsm ht9 rfl
        have hl := last_byte v t x []
        have hbd := bytes_bounds v t [x] hv0 hsm (fun y hy => by simp at hy; omega)
        have hcells := cell_of_own hown4
        generalize encTo v t ++ rest v t :: [x] = L at hP hl hbd hcells
        obtain ⟨hT, hval⟩ := hP
        have hdec := dec_ok g2 0 cap2 t (fun i => L.getD i 0) w3 (by omega) hcells hbd hT (by rw [hval]; exact hvi) (by show L.getD (t + 1) 0 ≤ 1; rw [hl]; exact hxi)
        rw [hval] at hdec
        simp only [hl] at hdec
        refine hdec.mono ?_
        rintro e w4 ⟨rfl, hb4⟩
        clear hdec hT hval hl hbd hcells hown4 hown3 hown2 hown hgrow2 hgrow3 hat Hbig hnil
        go_wp2_with fail
        go_ret
        exact ⟨rfl, hb3.trans (hb4.mono hb3.size)⟩
      · have hbad : 9223372036854775807 < v ∨ 1 < x := by omega
        go_enter Ybad.func4, Ybad.ntmps4
        go_wp2_with fail
        refine (put_any v w hv0 hv).mono ?_
        rintro e w1 ⟨t, g, cap1, rfl, hbg, hsm, ht9, hown, hb⟩
        have Hbig : Hid (∀ j, j < t → 128 ≤ rest v j) := hbg
        clear hbg
        have hbs := hb.size
        have tok1 : True := trivial
        go_wp2_with (first
          | (at_builtin; have _t := tok1; refine wpList_append_lies _ rfl _ _ _ rfl w.heap.size 5 i (.int .u8 0) 1 1 Ybad.underlying22 hi hz0 hz1 hz2 rfl (by omega) _ (t + 1) _ rfl (hown.alloc _) ⟨w1.heap.size, 0, none⟩ 1 1 [.int .u8 x] rfl rfl (cell_one_new _ _ _) (fun x hx => by simp at hx; subst hx; rfl) (by omega) (by unfold maxLen; omega) (by omega) (by simp; omega) _ rfl ?_; intro g2 cap2 w2 hown2 hgrow2 hat hlt; clear tok1; have hcap2 := cap_of_own hown2)
          | (at_builtin; refine wpList_append_fits_any _ rfl _ _ _ rfl w.heap.size 5 i 1 Ybad.underlying22 hi hz1 g2 (t + 1 + 1) cap2 _ rfl hown2 ad 0 cap [] rfl rfl (nil_cap hnil) (fun _ _ j u hu => by simp at hu) (fun _ hu => by simp at hu) hcap2 ?_; intro w3 hown3 hgrow3))
        have hb2 : Below w.heap.size w w2 := (hb.alloc hbs _).grown hgrow2 (by simp; omega) (fun q hq => (hown.lt q hq).1)
        have hb3 : Below w.heap.size w w3 := hb2.grown hgrow3 hb2.size (fun q hq => by cases hq; exact (hown2.lt g2 rfl).1)
        have hown4 : w3.ownsRow w.heap.size 5 1 (.slice (some ⟨g2, 0, none⟩) (t + 2) cap2) (t + 2) (cellsU8 (encTo v t ++ rest v t :: [x])) := by
          rw [List.append_nil, cellsU8_snoc, snoc_form] at hown3; exact hown3
        have hnot := built_bad v x t [] hv0 hv Hbig.out hsm ht9 (by omega)
        have hbd := bytes_bounds v t [x] hv0 hsm (fun y hy => by simp at hy; omega)
        have hcells := cell_of_own hown4
        have hg3 : w3.cell? ⟨0, 0, none⟩ = some (.iface 46 (.pointer (some a))) := by rw [hb3.cell (lt_of_cell hg)]; exact hg
        refine (dec_bad _ (t + 2) cap2 (fun i => (encTo v t ++ rest v t :: [x]).getD i 0) w3 46 (.pointer (some a)) hg3 (by omega) (by omega) (.inr ⟨g2, 0, rfl, hcells⟩) hbd hnot).mono ?_
        rintro e w4 ⟨rfl, hb4⟩
        have hg4 : w4.cell? ⟨0, 0, none⟩ = some (.iface 46 (.pointer (some a))) := by rw [hb4.cell (lt_of_cell hg3)]; exact hg3
        have heq := eql_same
        have hguard : decide (v ≤ 9223372036854775807) = true ∧ 1 < x ∨ decide (v ≤ 9223372036854775807) = false := by
          by_cases h : v ≤ 9223372036854775807
          · exact .inl ⟨by simpa using h, by omega⟩
          · exact .inr (by simpa using h)
        clear hnot hbd hcells hown4 hown3 hown2 hown hgrow2 hgrow3 hat Hbig hnil hbad hgood
        rcases hguard with ⟨h1, h2⟩ | h1
        all_goals
          go_wp2_with fail
          go_ret
          exact ⟨rfl, hb3.trans (hb4.mono hb3.size)⟩
    · have hpos : 0 < len := by omega
      obtain ⟨b, off, rfl, hc⟩ : ∃ b off, ad = some ⟨b, off, none⟩ ∧ ∀ i, i < len → w.cell? ⟨b, off + i, none⟩ = some (.int .u8 (z i)) := by
        rcases hr with ⟨h, _⟩ | h
        · omega
        · exact h
      have hl1 : ((len : Int) == 0) = false := by simp; omega
      have hle : len ≤ 1024 := by omega
      clear hlen9 hr hbig hl0
      go_enter Ybad.func4, Ybad.ntmps4
      go_wp2_with fail
      refine (put_any v w hv0 hv).mono ?_
      rintro e w1 ⟨t, g, cap1, rfl, hbg, hsm, ht9, hown, hb⟩
      have Hbig : Hid (∀ j, j < t → 128 ≤ rest v j) := hbg
      clear hbg
      have hbs := hb.size
      have tok1 : True := trivial
      go_wp2_with (first
        | (at_builtin; have _t := tok1; refine wpList_append_lies _ rfl _ _ _ rfl w.heap.size 5 i (.int .u8 0) 1 1 Ybad.underlying22 hi hz0 hz1 hz2 rfl (by omega) _ (t + 1) _ rfl (hown.alloc _) ⟨w1.heap.size, 0, none⟩ 1 1 [.int .u8 x] rfl rfl (cell_one_new _ _ _) (fun x hx => by simp at hx; subst hx; rfl) (by omega) (by unfold maxLen; omega) (by omega) (by simp; omega) _ rfl ?_; intro g2 cap2 w2 hown2 hgrow2 hat hlt; clear tok1; have hb2 : Below w.heap.size w w2 := (hb.alloc hbs _).grown hgrow2 (by simp; omega) (fun q hq => (hown.lt q hq).1); have hc2 := tail_news (fun i hi => (hb2.cell (lt_of_cell (hc i hi))).trans (hc i hi)); have hbs2 := hb2.size)
        | (at_builtin; refine wpList_append_lies _ rfl _ _ _ rfl w.heap.size 5 i (.int .u8 0) 1 1 Ybad.underlying22 hi hz0 hz1 hz2 rfl (by omega) _ (t + 1 + 1) _ rfl hown2 ⟨b, off, none⟩ len cap (cellsU8 (tailOf z len)) rfl (cells_len _ _ (tailOf_length z len)) hc2 (u8_oneCell _) hpos (by unfold maxLen; omega) (by omega) hbs2 _ rfl ?_; intro g3 cap3 w3 hown3 hgrow3 hat3 hlt3))
      have hb3 : Below w.heap.size w w3 := hb2.grown hgrow3 hb2.size (fun q hq => (hown2.lt q hq).1)
      have hown4 : w3.ownsRow w.heap.size 5 1 (.slice (some ⟨g3, 0, none⟩) (t + 1 + 1 + len) cap3) (t + 1 + 1 + len) (cellsU8 (encTo v t ++ rest v t :: x :: tailOf z len)) := by
        rw [cellsU8_snoc, snoc_form, join_form] at hown3; exact hown3
      have hnot := built_bad v x t (tailOf z len) hv0 hv Hbig.out hsm ht9 (by rw [tailOf_length]; omega)
      rw [tailOf_length] at hnot
      have hbd := bytes_bounds v t (x :: tailOf z len) hv0 hsm (fun y hy => by
        rcases List.mem_cons.1 hy with rfl | hy
        · omega
        · obtain ⟨j, _, rfl⟩ := List.mem_map.1 hy; exact hz j)
      have hcells := cell_of_own hown4
      have hcap3 := cap_of_own hown4
      have hg3 : w3.cell? ⟨0, 0, none⟩ = some (.iface 46 (.pointer (some a))) := by rw [hb3.cell (lt_of_cell hg)]; exact hg
      refine (dec_bad _ (t + 1 + 1 + len) cap3 (fun i => (encTo v t ++ rest v t :: x :: tailOf z len).getD i 0) w3 46 (.pointer (some a)) hg3 (by omega) hcap3 (.inr ⟨g3, 0, rfl, hcells⟩) hbd hnot).mono ?_
      rintro e w4 ⟨rfl, hb4⟩
      have hg4 : w4.cell? ⟨0, 0, none⟩ = some (.iface 46 (.pointer (some a))) := by rw [hb4.cell (lt_of_cell hg3)]; exact hg3
      have heq := eql_same
      have hguard : (decide (v ≤ 9223372036854775807) = true ∧ (decide (x ≤ 1) = true ∨ decide (x ≤ 1) = false)) ∨ decide (v ≤ 9223372036854775807) = false := by
        by_cases h : v ≤ 9223372036854775807
        · refine .inl ⟨by simpa using h, ?_⟩
          cases decide (x ≤ 1)
          · exact .inr rfl
          · exact .inl rfl
        · exact .inr (by simpa using h)
      clear hnot hbd hcells hown4 hown3 hown2 hown hgrow2 hgrow3 hat hat3 Hbig hc hc2
      rcases hguard with ⟨h1, h2 | h2⟩ | h1
      all_goals
        go_wp2_with fail
        go_ret
        exact ⟨rfl, hb3.trans (hb4.mono hb3.size)⟩
end Go.Proofs.YbulkbjymDoor
