/-
  FnAppendPaddedSortsAsItsNumbers: the walk.
-/
import Derived.Test.Qxb6619304aDoorRead
namespace Go.Proofs.Qxb6619304aDoor.sorts
open Go Go.RowKit Go.Lib Go.Sort

/-- What an owned row of a padded numeral says of its cells. -/
theorem row_cells {w : World} {v : Value} {n m : Nat} (h : w.ownsRow 0 5 1 v m (byteCells (text n m))) (hm : 1 ≤ m) :
    ∃ g cap, v = .slice (some ⟨g, 0, none⟩) m cap ∧ m ≤ maxLen ∧ g < w.heap.size ∧ ∀ i, i < m → w.cell? ⟨g, 0 + i, none⟩ = some (.int .u8 ((dg n (m - 1 - i)).toNat : Int)) := by
  rcases h.2 with ⟨-, h0⟩ | ⟨g, cap, cur, rfl, -, hg, hle, hmax, -, -⟩
  · omega
  · refine ⟨g, cap, rfl, Nat.le_trans hle hmax, (Array.getElem?_eq_some_iff.1 hg).1, fun i hi => ?_⟩
    rw [← Lib.add_plain]
    refine h.cells (g := g) rfl i _ ?_
    simp [byteCells, text, hi]

theorem plen_pos (n : Nat) (width : Int) : 1 ≤ plen n width := by
  have := nDigits_pos n; unfold plen; omega
theorem plen_lt (n : Nat) (width : Int) : n < 10 ^ plen n width :=
  Nat.lt_of_lt_of_le (lt_pow_nDigits n) (Nat.pow_le_pow_right (by omega) (by unfold plen; omega))
theorem plen_width (n : Nat) (width : Int) : width ≤ plen n width := by unfold plen; omega
theorem plen_lead (n : Nat) (width : Int) (h1 : 1 < plen n width) (h2 : width < plen n width) : 10 ^ (plen n width - 1) ≤ n := by
  have e : plen n width = nDigits n := by unfold plen at *; omega
  rw [e] at h1 ⊢
  exact pow_le_of_nDigits n (nDigits n - 1) (by omega) (by omega)
theorem plen_sg (n1 n2 : Nat) (width : Int) (h : plen n1 width < plen n2 width) : n1 < n2 := by
  have h2 : width < plen n2 width := by have := plen_width n1 width; omega
  have h3 := plen_lead n2 width (by have := plen_pos n1 width; omega) h2
  have h1 := plen_lt n1 width
  have h4 : 10 ^ plen n1 width ≤ 10 ^ (plen n2 width - 1) := Nat.pow_le_pow_right (by omega) (by omega)
  omega

/-- ZZappendPadded hands on. -/
theorem zzpad_any (B k n : Nat) (width : Int) (sv : Value) (xs : List Value) (w : World) (hown : w.ownsRow 0 5 1 sv k xs) (hn : n ≤ 9223372036854775807) (hw0 : -9223372036854775808 ≤ width) (hw1 : width ≤ 65536)
    (hno : n < 1000000000000000000 ∨ width ≤ 19) (hlim : k + 70000 ≤ 140737488355328) (hB : B ≤ w.heap.size) (hsv : ∀ g, sv.ownBlock = some g → B ≤ g)
    (htab : TabBelow Tryd.prog B w powName .u64 pow10Tab) :
    Calls Tryd.prog 8 #[sv, .int .i64 n, .int .i64 width] w fun e w' => Put w sv k xs (text n (plen n width)) e w' := by
  have H := hid (pad_any B k n width sv xs w hown hn hw0 hw1 hno hlim hB hsv htab)
  clear hown hno hsv htab
  go_enter Tryd.func8, Tryd.ntmps8
  go_wp2_with (go_at_call 12; refine H.out.mono ?_; rintro e w2 ⟨v2, rfl, hown2, hst⟩)
  go_ret
  exact Put.mk _ v2 rfl hown2 hst

set_option maxRecDepth 100000 in
theorem walk_out (n1 n2 width : Int) (w : World) (h : 65536 < width ∨ n1 < 0 ∨ n2 < 0) :
    Calls Tryd.prog 4 #[.int .i64 n1, .int .i64 n2, .int .i64 width] w fun e w' => e = .returned (.bool true) ∧ Below w.heap.size w w' := by
  by_cases h1 : 65536 < width
  · clear h
    go_enter Tryd.func4, Tryd.ntmps4
    go_wp2
    go_ret
    exact ⟨rfl, Below.refl _ _⟩
  by_cases h2 : n1 < 0
  · clear h
    go_enter Tryd.func4, Tryd.ntmps4
    go_wp2
    go_ret
    exact ⟨rfl, Below.refl _ _⟩
  · have h3 : n2 < 0 := by omega
    clear h
    go_enter Tryd.func4, Tryd.ntmps4
    go_wp2
    go_ret
    exact ⟨rfl, Below.refl _ _⟩

set_option maxRecDepth 100000 in
theorem walk_wraps (n1 n2 : Nat) (width : Int) (w : World) (hw : width ≤ 65536) (h : ¬ ((n1 < 1000000000000000000 ∨ width ≤ 19) ∧ (n2 < 1000000000000000000 ∨ width ≤ 19))) :
    Calls Tryd.prog 4 #[.int .i64 n1, .int .i64 n2, .int .i64 width] w fun e w' => e = .returned (.bool true) ∧ Below w.heap.size w w' := by
  by_cases h1 : n1 < 1000000000000000000 ∨ width ≤ 19
  · have H1 := hid h1
    have H2 := hid (show 1000000000000000000 ≤ n2 ∧ 20 ≤ width by omega)
    clear h h1
    go_enter Tryd.func4, Tryd.ntmps4
    go_wp2_with fail
    refine (wraps_no n1 width _ H1.out).mono ?_
    rintro e w' ⟨rfl, rfl⟩
    go_wp2_with fail
    refine (wraps_yes n2 width _ H2.out.1 H2.out.2).mono ?_
    rintro e w' ⟨rfl, rfl⟩
    go_wp2
    go_ret
    exact ⟨rfl, Below.refl _ _⟩
  · have H1 := hid (show 1000000000000000000 ≤ n1 ∧ 20 ≤ width by omega)
    clear h h1
    go_enter Tryd.func4, Tryd.ntmps4
    go_wp2_with fail
    refine (wraps_yes n1 width _ H1.out.1 H1.out.2).mono ?_
    rintro e w' ⟨rfl, rfl⟩
    go_wp2
    go_ret
    exact ⟨rfl, Below.refl _ _⟩

set_option maxHeartbeats 1600000 in
set_option maxRecDepth 100000 in
theorem walk_in (n1 n2 : Nat) (width : Int) (w : World) (hn1 : n1 ≤ 9223372036854775807) (hn2 : n2 ≤ 9223372036854775807) (hw0 : -9223372036854775808 ≤ width) (hw : width ≤ 65536)
    (ho1 : n1 < 1000000000000000000 ∨ width ≤ 19) (ho2 : n2 < 1000000000000000000 ∨ width ≤ 19) (htab : TabIs Tryd.prog w powName .u64 pow10Tab) :
    Calls Tryd.prog 4 #[.int .i64 n1, .int .i64 n2, .int .i64 width] w fun e w' => e = .returned (.bool true) ∧ Below w.heap.size w w' := by
  have H1 := hid ho1
  have H2 := hid ho2
  have HT := hid (tabBelow_of_tabIs htab)
  clear ho1 ho2 htab
  go_enter Tryd.func4, Tryd.ntmps4
  go_wp2_with fail
  refine (wraps_no n1 width _ H1.out).mono ?_
  rintro e w' ⟨rfl, rfl⟩
  go_wp2_with fail
  refine (wraps_no n2 width _ H2.out).mono ?_
  rintro e w' ⟨rfl, rfl⟩
  go_wp2_with fail
  refine (zzpad_any w'.heap.size 0 n1 width _ [] w' (World.ownsRow_nil _ _ _ _) hn1 hw0 hw H1.out (by omega) (Nat.le_refl _) (fun g h => by cases h) HT.out).mono ?_
  rintro e w1 ⟨v1, rfl, hown1, hst1⟩
  have hb1 := hst1.below (Nat.le_refl _) (fun g h => by cases h)
  simp only [Nat.zero_add, List.nil_append, text_length] at hown1
  have HO1 := hid hown1
  have HB1 := hid hb1
  clear hown1 hst1 hb1
  go_wp2_with fail
  refine (zzpad_any w'.heap.size 0 n2 width _ [] w1 (World.ownsRow_nil _ _ _ _) hn2 hw0 hw H2.out (by omega) HB1.out.size (fun g h => by cases h) (HT.out.on HB1.out)).mono ?_
  rintro e w2 ⟨v2, rfl, hown2, hst2⟩
  have hb2 := hst2.below HB1.out.size (fun g h => by cases h)
  have hown1 := hst2.other HO1.out (by cases v1.ownBlock <;> simp [Value.ownBlock])
  simp only [Nat.zero_add, List.nil_append, text_length] at hown2
  have HB2 := hid (HB1.out.trans hb2)
  obtain ⟨g1, cap1, hv1, hm1, -, hc1⟩ := row_cells hown1 (plen_pos _ _)
  obtain ⟨g2, cap2, hv2, hm2, -, hc2⟩ := row_cells hown2 (plen_pos _ _)
  have HC1 := hid hc1
  have HC2 := hid hc2
  clear hown1 hown2 hst2 hb2 HO1 hc1 hc2
  subst hv1 hv2
  go_wp2_with fail
  refine (isPadded g1 0 _ cap1 n1 width w2 hm1 (plen_pos _ _) hn1 (plen_lt _ _) (plen_width _ _) (plen_lead _ _) HC1.out).mono ?_
  rintro e w3 ⟨rfl, rfl⟩
  go_wp2_with fail
  refine (isPadded g2 0 _ cap2 n2 width w3 hm2 (plen_pos _ _) hn2 (plen_lt _ _) (plen_width _ _) (plen_lead _ _) HC2.out).mono ?_
  rintro e w4 ⟨rfl, rfl⟩
  have hcall : Calls Tryd.prog 11 #[.slice (some ⟨g1, 0, none⟩) (plen n1 width) cap1, .slice (some ⟨g2, 0, none⟩) (plen n2 width) cap2] w4 fun e w' => e = .returned (.int .i64 (sg n1 n2)) ∧ Below w4.heap.size w4 w' := by
    rcases Nat.lt_trichotomy (plen n1 width) (plen n2 width) with h | h | h
    · refine (shortlex_lt _ _ _ _ _ _ _ h).mono ?_
      rintro e w' ⟨rfl, rfl⟩
      exact ⟨by rw [sg_lt (plen_sg _ _ _ h)], Below.refl _ _⟩
    · have h2 := HC2.out
      have h3 := plen_lt n2 width
      rw [← h] at h2 h3
      rw [← h]
      exact shortlex_eq g1 0 cap1 g2 0 cap2 _ n1 n2 w4 hm1 (plen_lt _ _) h3 HC1.out h2
    · refine (shortlex_gt _ _ _ _ _ _ _ h).mono ?_
      rintro e w' ⟨rfl, rfl⟩
      exact ⟨by rw [sg_gt (plen_sg _ _ _ h)], Below.refl _ _⟩
  have HCL := hid hcall
  clear hcall HC1 HC2 hm1 hm2
  rcases Nat.lt_trichotomy n1 n2 with h | h | h
  · have hc := HCL.out
    rw [sg_lt h] at hc
    have HC := hid hc
    clear hc HCL
    go_wp2_with (go_at_call 11; refine HC.out.mono ?_; rintro e w5 ⟨rfl, hb5⟩)
    go_ret
    exact ⟨rfl, HB2.out.trans (hb5.mono HB2.out.size)⟩
  · subst h
    have hc := HCL.out
    rw [sg_eq] at hc
    have HC := hid hc
    clear hc HCL
    go_wp2_with (go_at_call 11; refine HC.out.mono ?_; rintro e w5 ⟨rfl, hb5⟩)
    go_ret
    exact ⟨rfl, HB2.out.trans (hb5.mono HB2.out.size)⟩
  · have hc := HCL.out
    rw [sg_gt h] at hc
    have HC := hid hc
    clear hc HCL
    go_wp2_with (go_at_call 11; refine HC.out.mono ?_; rintro e w5 ⟨rfl, hb5⟩)
    go_ret
    exact ⟨rfl, HB2.out.trans (hb5.mono HB2.out.size)⟩

/-- THE WALK, at every three ints. -/
theorem walk (n1 n2 width : Int) (w : World) (h1 : n1 ≤ 9223372036854775807) (h2 : n2 ≤ 9223372036854775807) (hw0 : -9223372036854775808 ≤ width) (htab : TabIs Tryd.prog w powName .u64 pow10Tab) :
    Calls Tryd.prog 4 #[.int .i64 n1, .int .i64 n2, .int .i64 width] w fun e w' => e = .returned (.bool true) ∧ Below w.heap.size w w' := by
  by_cases h : 65536 < width ∨ n1 < 0 ∨ n2 < 0
  · exact walk_out n1 n2 width w h
  obtain ⟨a, rfl⟩ := Int.eq_ofNat_of_zero_le (a := n1) (by omega)
  obtain ⟨b, rfl⟩ := Int.eq_ofNat_of_zero_le (a := n2) (by omega)
  by_cases hc : (a < 1000000000000000000 ∨ width ≤ 19) ∧ (b < 1000000000000000000 ∨ width ≤ 19)
  · exact walk_in a b width w (by omega) (by omega) hw0 (by omega) hc.1 hc.2 htab
  · exact walk_wraps a b width w (by omega) hc
end Go.Proofs.Qxb6619304aDoor.sorts
