/-
  FnAppendPaddedIsLeastPaddingAndSplits: the walk.
-/
import Derived.Test.Qxb6619304aDoorClone
import Derived.Test.Qxb6619304aDoorSplitPlain
namespace Go.Proofs.Qxb6619304aDoor.splits
open Go Go.RowKit Go.Lib Go.Sort
open Go.Proofs.Qxb6619304aDoor.sorts (zzpad_any plen_pos plen_lt plen_width plen_lead)

/-- Bytes as cells. -/
theorem u8cells_one {xs : List Value} (h : ∀ u ∈ xs, ∃ z : Int, u = .int .u8 z) : ∀ u ∈ xs, u.oneCell' = true := by
  intro u hu; obtain ⟨z, rfl⟩ := h u hu; rfl

/-- Two owned rows of one length whose cells are the same: zzEqual says yes, whatever is cut off behind. -/
theorem equal_owned {w : World} {v1 v2 : Value} {n1 n2 : Nat} {xs ys1 ys2 : List Value} (h1 : w.ownsRow 0 5 1 v1 n1 (xs ++ ys1)) (h2 : w.ownsRow 0 5 1 v2 n2 (xs ++ ys2)) (hu : ∀ u ∈ xs, ∃ z : Int, u = .int .u8 z)
    (a1 a2 : Option Addr) (m1 m2 c1 c2 d1 d2 : Nat) (e1 : v1 = .slice a1 m1 d1) (e2 : v2 = .slice a2 m2 d2) :
    Calls Tryd.prog 9 #[.slice a1 xs.length c1, .slice a2 xs.length c2] w fun e w' => e = .returned (.bool true) ∧ Below w.heap.size w w' := by
  by_cases h0 : xs.length = 0
  · rw [h0]; exact equal_zero a1 a2 c1 c2 w
  · have hx : xs ≠ [] := fun e => h0 (by rw [e]; rfl)
    have hl1 := h1.1
    have hl2 := h2.1
    rw [List.length_append] at hl1 hl2
    rcases h1.2 with ⟨-, h0⟩ | ⟨g1, cap1, cur1, hv1, -, -, hle1, hmx1, -, -⟩
    · omega
    rcases h2.2 with ⟨-, h0⟩ | ⟨g2, cap2, cur2, hv2, -, -, -, -, -, -⟩
    · omega
    have k1 := hv1.symm.trans e1
    have k2 := hv2.symm.trans e2
    cases k1
    cases k2
    subst hv1 hv2
    have cell : ∀ {v : Value} {n g : Nat} {ys : List Value}, w.ownsRow 0 5 1 v n (xs ++ ys) → v.ownBlock = some g → ∀ i, i < xs.length → w.cell? ⟨g, 0 + i, none⟩ = some (.int .u8 (RowKit.intOf (xs.getD i (.int .u8 0)))) := by
      intro v n g ys ho hb i hi
      rw [← Lib.add_plain]
      refine ho.cells hb i _ ?_
      rw [List.getElem?_append_left hi, List.getElem?_eq_getElem hi]
      obtain ⟨z, hz⟩ := hu xs[i] (List.getElem_mem hi)
      have : xs.getD i (.int .u8 0) = xs[i] := by simp [List.getD, hi]
      rw [this, hz]
      rfl
    exact equal_some g1 0 c1 g2 0 c2 xs.length _ w (by omega) (cell h1 rfl) (cell h2 rfl)

theorem owns_form {w : World} {v : Value} {n : Nat} {xs : List Value} (h : w.ownsRow 0 5 1 v n xs) : ∃ a c, v = .slice a n c ∧ n ≤ c ∧ c ≤ maxLen ∧ (a = none → n = 0 ∧ c = 0) ∧ ∀ x, a = some x → ∃ g, x = ⟨g, 0, none⟩ ∧ v.ownBlock = some g := by
  rcases h.2 with ⟨rfl, rfl⟩ | ⟨g, cap, cur, rfl, -, -, hle, hmx, -, -⟩
  · exact ⟨none, 0, rfl, Nat.le_refl _, Nat.zero_le _, fun _ => ⟨rfl, rfl⟩, fun x hx => by cases hx⟩
  · exact ⟨some ⟨g, 0, none⟩, cap, rfl, hle, hmx, (fun h => by cases h), (fun x hx => by cases hx; exact ⟨g, rfl, rfl⟩)⟩

theorem u8_byteCells (l : List UInt8) : ∀ u ∈ byteCells l, ∃ z : Int, u = .int .u8 z := by
  intro u hu
  simp only [byteCells, List.mem_map] at hu
  obtain ⟨b, _, rfl⟩ := hu
  exact ⟨_, rfl⟩

set_option maxRecDepth 100000 in
theorem walk_out (a : Option Addr) (len cap : Nat) (n width k : Int) (w : World) (h : 1048576 < len ∨ 65536 < width ∨ n < 0) :
    Calls Tryd.prog 3 #[.slice a len cap, .int .i64 n, .int .i64 width, .int .i64 k] w fun e w' => e = .returned (.bool true) ∧ Below w.heap.size w w' := by
  by_cases h1 : 1048576 < len
  · clear h
    go_enter Tryd.func3, Tryd.ntmps3
    go_wp2_with (go_at_call 5; refine (bytes_no _ _ _ _ _ _ _ h1).mono ?_; rintro e w' ⟨rfl, rfl⟩)
    go_ret
    exact ⟨rfl, Below.refl _ _⟩
  by_cases h2 : 65536 < width
  · clear h
    go_enter Tryd.func3, Tryd.ntmps3
    go_wp2_with (go_at_call 5; refine (bytes_yes _ _ _ _ _ _ _ (by omega)).mono ?_; rintro e w' ⟨rfl, rfl⟩)
    go_ret
    exact ⟨rfl, Below.refl _ _⟩
  · have h3 : n < 0 := by omega
    clear h
    go_enter Tryd.func3, Tryd.ntmps3
    go_wp2_with (go_at_call 5; refine (bytes_yes _ _ _ _ _ _ _ (by omega)).mono ?_; rintro e w' ⟨rfl, rfl⟩)
    go_ret
    exact ⟨rfl, Below.refl _ _⟩

set_option maxRecDepth 100000 in
theorem walk_wraps (a : Option Addr) (len cap n : Nat) (width k : Int) (w : World) (h1 : len ≤ 1048576) (hw : width ≤ 65536) (h2 : 1000000000000000000 ≤ n) (h3 : 20 ≤ width) :
    Calls Tryd.prog 3 #[.slice a len cap, .int .i64 n, .int .i64 width, .int .i64 k] w fun e w' => e = .returned (.bool true) ∧ Below w.heap.size w w' := by
  have H2 := hid h2
  clear h2
  go_enter Tryd.func3, Tryd.ntmps3
  go_wp2_with (first | (go_at_call 5; refine (bytes_yes _ _ _ _ _ _ _ h1).mono ?_; rintro e w' ⟨rfl, rfl⟩) | (go_at_call 6; refine (wraps_yes n width _ H2.out h3).mono ?_; rintro e w' ⟨rfl, rfl⟩))
  go_ret
  exact ⟨rfl, Below.refl _ _⟩

theorem wrap_div (n : Nat) (q : Int) (d : Nat) (hq : q = ((d : Nat) : Int)) (hn : n ≤ 9223372036854775807) : wrap64 ((n : Int) / q) = ((n / d : Nat) : Int) := by
  have h : (n : Int) / q = ((n / d : Nat) : Int) := by rw [hq]; exact (Int.natCast_ediv _ _).symm
  have h2 : n / d ≤ n := Nat.div_le_self _ _
  rw [h]
  generalize n / d = x at h2 ⊢
  unfold wrap64; omega

theorem div_small (n t : Nat) (hn : n ≤ 9223372036854775807) (ht : 1 ≤ t) : n / 10 ^ t < 1000000000000000000 := by
  have h1 : 10 ^ 1 ≤ 10 ^ t := Nat.pow_le_pow_right (by omega) ht
  have h2 : n / 10 ^ t ≤ n / 10 ^ 1 := Nat.div_le_div_left h1 (by omega)
  omega

theorem plen_bound (n : Nat) (width : Int) (hn : n ≤ 9223372036854775807) (hw : width ≤ 65536) : plen n width ≤ 65536 := by
  have := nDigits_le20 n (by omega)
  unfold plen; omega

theorem u8_append {xs : List Value} (h : ∀ u ∈ xs, ∃ z : Int, u = .int .u8 z) (l : List UInt8) : ∀ u ∈ xs ++ byteCells l, ∃ z : Int, u = .int .u8 z := by
  intro u hu
  rcases List.mem_append.1 hu with h1 | h1
  · exact h u h1
  · exact u8_byteCells l u h1

theorem pow_le18 (t : Nat) (h : t ≤ 18) : 1 ≤ 10 ^ t ∧ 10 ^ t ≤ 1000000000000000000 := by
  have h1 : 10 ^ t ≤ 10 ^ 18 := Nat.pow_le_pow_right (by omega) h
  have e : 10 ^ 18 = 1000000000000000000 := by decide
  have h2 : 0 < 10 ^ t := Nat.pow_pos (by omega)
  omega
theorem pow_le17 (t : Nat) (h : t ≤ 17) : 10 ^ t ≤ 100000000000000000 := by
  have h1 : 10 ^ t ≤ 10 ^ 17 := Nat.pow_le_pow_right (by omega) h
  have e : 10 ^ 17 = 100000000000000000 := by decide
  omega

/-- The cells behind the prefix. -/
theorem tail_cells {w : World} {v : Value} {N n m g len : Nat} {xs : List Value} (h : w.ownsRow 0 5 1 v N (xs ++ byteCells (text n m))) (hg : v.ownBlock = some g) (hl : xs.length = len) :
    ∀ i, i < m → w.cell? ⟨g, len + i, none⟩ = some (.int .u8 ((dg n (m - 1 - i)).toNat : Int)) := by
  intro i hi
  have := h.cells hg (len + i) (.int .u8 ((dg n (m - 1 - i)).toNat : Int)) (by
    rw [List.getElem?_append_right (by omega)]
    have : len + i - xs.length = i := by omega
    rw [this]
    simp [byteCells, text, hi])
  rwa [Lib.add_plain, Nat.zero_add] at this

/-- The padded numeral, the number given as an int. -/
theorem zzpad_int (B k n : Nat) (q width : Int) (sv : Value) (xs : List Value) (w : World) (hq : q = (n : Int)) (hown : w.ownsRow 0 5 1 sv k xs) (hn : n ≤ 9223372036854775807) (hw0 : -9223372036854775808 ≤ width) (hw1 : width ≤ 65536)
    (hno : n < 1000000000000000000 ∨ width ≤ 19) (hlim : k + 70000 ≤ 140737488355328) (hB : B ≤ w.heap.size) (hsv : ∀ g, sv.ownBlock = some g → B ≤ g)
    (htab : TabBelow Tryd.prog B w powName .u64 pow10Tab) :
    Calls Tryd.prog 8 #[sv, .int .i64 q, .int .i64 width] w fun e w' => Put w sv k xs (text n (plen n width)) e w' := by
  subst hq
  exact zzpad_any B k n width sv xs w hown hn hw0 hw1 hno hlim hB hsv htab

set_option maxHeartbeats 1600000 in
set_option maxRecDepth 100000 in
theorem walk_in (a : Option Addr) (len cap n : Nat) (width k : Int) (xs : List Value) (w : World) (h1 : len ≤ 1048576) (hw0 : -9223372036854775808 ≤ width) (hw : width ≤ 65536) (hn : n ≤ 9223372036854775807)
    (hno : n < 1000000000000000000 ∨ width ≤ 19) (hsrc : Src w (.slice a len cap) len xs) (hxs : ∀ u ∈ xs, ∃ z : Int, u = .int .u8 z) (htab : TabIs Tryd.prog w powName .u64 pow10Tab) :
    Calls Tryd.prog 3 #[.slice a len cap, .int .i64 n, .int .i64 width, .int .i64 k] w fun e w' => e = .returned (.bool true) ∧ Below w.heap.size w w' := by
  have HNO := hid hno
  have HS := hid hsrc
  have HX := hid hxs
  have HT := hid (tabBelow_of_tabIs htab)
  have hxl : xs.length = len := by
    rcases hsrc with ⟨-, rfl, rfl⟩ | ⟨_, _, -, h, -, -⟩
    · rfl
    · exact h
  have HXL := hid hxl
  clear hno hsrc hxs htab hxl
  go_enter Tryd.func3, Tryd.ntmps3
  go_wp2_with fail
  refine (bytes_yes _ _ _ _ _ _ _ h1).mono ?_
  rintro e w' ⟨rfl, rfl⟩
  go_wp2_with fail
  refine (wraps_no n width _ HNO.out).mono ?_
  rintro e w' ⟨rfl, rfl⟩
  go_wp2_with fail
  refine (clone_any _ len xs w' (by omega) HS.out).mono ?_
  rintro e w1 ⟨v1, rfl, own1, b1, g1⟩
  have HO1 := hid own1
  have HB1 := hid b1
  have HG1 := hid g1
  clear own1 b1 g1 HS
  go_wp2_with fail
  refine (clone_any v1 len xs w1 (by omega) (src_of_owns HO1.out (u8cells_one HX.out))).mono ?_
  rintro e w2 ⟨v2, rfl, own2, b2, g2⟩
  have HO2 := hid own2
  have HO1' := hid (ownsRow_below HO1.out b2)
  have HB2 := hid (HB1.out.trans (b2.mono HB1.out.size))
  have HG2 := hid g2
  have HS12 := hid b2.size
  clear own2 b2 g2
  go_wp2_with fail
  refine (zzpad_any w'.heap.size len n width v1 xs w2 HO1'.out hn hw0 hw HNO.out (by omega) HB2.out.size (fun g h => by have := (HG1.out g h).1; omega) (HT.out.on HB2.out)).mono ?_
  rintro e w3 ⟨v3, rfl, own3, st3⟩
  rw [text_length] at own3
  have HB3 := hid (HB2.out.trans (st3.below HB2.out.size (fun g h => by have := (HG1.out g h).1; omega)))
  have hne : v2.ownBlock = none ∨ v2.ownBlock ≠ v1.ownBlock := by
    cases hv2 : v2.ownBlock with
    | none => exact .inl rfl
    | some g => 
      refine .inr fun e => ?_
      have h2 := (HG2.out g hv2).1
      have h3 := HG1.out g e.symm
      omega
  have HO2' := hid (st3.other HO2.out hne)
  have HO3 := hid own3
  clear own3 st3 hne
  obtain ⟨a2, c2, e2, hle2, hmx2, hnil2, -⟩ := owns_form HO2'.out
  obtain ⟨a3, c3, e3, hle3, hmx3, hnil3, hs3⟩ := owns_form HO3.out
  have hm1 := plen_pos n width
  obtain ⟨x3, rfl⟩ : ∃ x, a3 = some x := by
    cases a3 with
    | none => have := (hnil3 rfl).1; omega
    | some x => exact ⟨x, rfl⟩
  obtain ⟨g3, rfl, hg3⟩ := hs3 x3 rfl
  have H9 := hid (equal_owned (ys2 := []) HO3.out (by rw [List.append_nil]; exact HO2'.out) HX.out _ _ _ _ c3 c2 _ _ e3 e2)
  rw [HXL.out] at H9
  subst e2 e3
  clear hnil2 hnil3 hs3 hle2 hmx2
  unfold maxLen at hmx3
  have d1 : decide (1048576 < (len : Int)) = false := by simp; omega
  have d2 : decide (65536 < width) = false := by simp; omega
  have d3 : decide ((n : Int) < 0) = false := by simp
  have d6 : decide ((len : Int) + (plen n width : Int) < (len : Int)) = false := by simp; omega
  go_wp2_with fail
  refine H9.out.mono ?_
  rintro e w4 ⟨rfl, b4⟩
  have HO3' := hid (ownsRow_below HO3.out b4)
  have HO2'' := hid (ownsRow_below HO2'.out b4)
  have HB4 := hid (HB3.out.trans (b4.mono HB3.out.size))
  clear b4 H9 HO3 HO2' HB3 HO1 HO1' HO2 HB1 HB2 HG1 HG2 HS12
  have H10 := hid (fun c => isPadded g3 len (plen n width) c n width w4 (by unfold maxLen; omega) (plen_pos _ _) hn (plen_lt _ _) (plen_width _ _) (plen_lead _ _) (tail_cells HO3'.out rfl HXL.out))
  go_wp2_with fail
  refine (H10.out _).mono ?_
  rintro e w5 ⟨rfl, rfl⟩
  clear H10
  by_cases hk : 1 ≤ k ∧ k ≤ 18
  · obtain ⟨hk1, hk2⟩ := hk
    obtain ⟨K, rfl⟩ := Int.eq_ofNat_of_zero_le (a := k) (by omega)
    have d4 : decide (1 ≤ (K : Int)) = true := by simp; omega
    have d5 : decide ((K : Int) ≤ 18) = true := by simp; omega
    go_wp2_with fail
    go_loop [11, 12] (fun p j => ∃ t : Nat, ∃ q : Int, t ≤ K ∧ j = .int .i64 t ∧ p = .int .i64 q ∧ q = ((10 ^ t : Nat) : Int)) (fun _ j => K - (RowKit.intOf j).toNat)
    case atStart => exact ⟨0, 1, by omega, rfl, rfl, rfl⟩
    case round =>
      obtain ⟨t, q, ht, rfl, rfl, hq⟩ := hrel
      have HQ := hid hq
      have hb := pow_le18 t (by omega)
      have hq1 : 1 ≤ q := by omega
      have hq2 : q ≤ 1000000000000000000 := by omega
      by_cases hlt : t < K
      · have hb2 := pow_le17 t (by omega)
        have hq3 : q ≤ 100000000000000000 := by omega
        clear hq hb hb2 hq2
        go_wp2
        exact ⟨⟨t + 1, q * 10, by omega, by go_num, rfl, by rw [HQ.out, Nat.pow_succ]; omega⟩, by simp [RowKit.intOf]; omega⟩
      · have et : t = K := by omega
        subst et
        clear hq hb
        by_cases hge : q ≤ n
        · have HD := hid (wrap_div n q (10 ^ t) HQ.out hn)
          have HP := hid (show 10 ^ t ≤ n by have := HQ.out; omega)
          have HM := hid (show (n : Int) % q = ((n % 10 ^ t : Nat) : Int) by rw [HQ.out]; exact (Int.natCast_emod _ _).symm)
          have hq0 : (q == 0) = false := by rw [beq_eq_false_iff_ne]; omega
          have hqn : ¬ q = 0 := by omega
          by_cases hwk : (t : Int) < width
          · go_wp2_with fail
            refine (clone_any _ len xs w5 (by omega) (src_of_owns HO2''.out (u8cells_one HX.out))).mono ?_
            rintro e w6 ⟨v6, rfl, own6, b6, g6⟩
            have HO6 := hid own6
            have HO3a := hid (ownsRow_below HO3'.out b6)
            have HG6 := hid g6
            have HB6 := hid (HB4.out.trans (b6.mono HB4.out.size))
            have hg3lt : g3 < w5.heap.size := (HO3'.out.lt g3 rfl).2
            have HG3 := hid hg3lt
            clear own6 b6 g6 hg3lt
            go_wp2_with fail
            refine (zzpad_int w'.heap.size len (n / 10 ^ t) _ (width - t) v6 xs w6 HD.out HO6.out (by have := Nat.div_le_self n (10 ^ t); omega) (by omega) (by omega) (.inl (div_small n t hn (by omega))) (by omega) HB6.out.size (fun g h => by have := (HG6.out g h).1; have := HB4.out.size; omega) (HT.out.on HB6.out)).mono ?_
            rintro e w7 ⟨v7, rfl, own7, st7⟩
            rw [text_length] at own7
            have HO7 := hid own7
            have HST7 := hid st7
            have HB7 := hid (HB6.out.trans (st7.below HB6.out.size (fun g h => by have := (HG6.out g h).1; have := HB4.out.size; omega)))
            have HV7 := hid (show ∀ g, v7.ownBlock = some g → w'.heap.size ≤ g from fun g h => by
              have h4 := HB4.out.size
              have h6 := HB6.out.size
              rcases st7.at_ with e7 | ⟨g', e7, hg'⟩
              · have := (HG6.out g (e7.symm.trans h)).1; omega
              · rw [e7] at h; cases h; omega)
            have HM1 := hid (show plen n width = plen (n / 10 ^ t) (width - t) + t from plen_split n t width HP.out (width - t) (by rw [if_pos hwk]))
            have hlm := plen_bound n width hn hw
            have hA : plen (n / 10 ^ t) (width - t) ≤ 70000 := by have := HM1.out; omega
            clear own7 st7
            go_wp2_with fail
            refine (zzpad_int w'.heap.size _ (n % 10 ^ t) _ t v7 _ w7 HM.out HO7.out (by have := Nat.mod_le n (10 ^ t); omega) (by omega) (by omega) (.inr (by omega)) (by omega) HB7.out.size HV7.out (HT.out.on HB7.out)).mono ?_
            rintro e w8 ⟨v8, rfl, own8, st8⟩
            have HB8 := hid (HB7.out.trans (st8.below HB7.out.size HV7.out))
            have hst := HST7.out.trans st8
            have own3 := hst.other HO3a.out (.inr (by
              intro e
              have h := (HG6.out g3 e.symm).1
              have := HG3.out
              omega))
            rw [text_length, plen_rem (n % 10 ^ t) t (Nat.mod_lt _ (Nat.pow_pos (by omega))) (by omega), Nat.add_assoc, ← HM1.out, List.append_assoc, ← byteCells_append, ← text_split, ← HM1.out] at own8
            obtain ⟨a8, c8, e8, -, -, -, -⟩ := owns_form own8
            have h9 := equal_owned (ys1 := []) (ys2 := []) (by rw [List.append_nil]; exact own8) (by rw [List.append_nil]; exact own3) (u8_append HX.out (text n (plen n width))) _ _ _ _ c8 c3 _ _ e8 rfl
            rw [List.length_append, byteCells_length, text_length, HXL.out] at h9
            have H9 := hid h9
            subst e8
            clear own8 st8 hst own3 h9
            go_wp2_with (go_at_call 9; refine H9.out.mono ?_; rintro e w9 ⟨rfl, b9⟩)
            go_ret
            exact ⟨rfl, HB8.out.trans (b9.mono HB8.out.size)⟩
          · go_wp2_with fail
            refine (clone_any _ len xs w5 (by omega) (src_of_owns HO2''.out (u8cells_one HX.out))).mono ?_
            rintro e w6 ⟨v6, rfl, own6, b6, g6⟩
            have HO6 := hid own6
            have HO3a := hid (ownsRow_below HO3'.out b6)
            have HG6 := hid g6
            have HB6 := hid (HB4.out.trans (b6.mono HB4.out.size))
            have hg3lt : g3 < w5.heap.size := (HO3'.out.lt g3 rfl).2
            have HG3 := hid hg3lt
            clear own6 b6 g6 hg3lt
            go_wp2_with fail
            refine (zzpad_int w'.heap.size len (n / 10 ^ t) _ 0 v6 xs w6 HD.out HO6.out (by have := Nat.div_le_self n (10 ^ t); omega) (by omega) (by omega) (.inl (div_small n t hn (by omega))) (by omega) HB6.out.size (fun g h => by have := (HG6.out g h).1; have := HB4.out.size; omega) (HT.out.on HB6.out)).mono ?_
            rintro e w7 ⟨v7, rfl, own7, st7⟩
            rw [text_length] at own7
            have HO7 := hid own7
            have HST7 := hid st7
            have HB7 := hid (HB6.out.trans (st7.below HB6.out.size (fun g h => by have := (HG6.out g h).1; have := HB4.out.size; omega)))
            have HV7 := hid (show ∀ g, v7.ownBlock = some g → w'.heap.size ≤ g from fun g h => by
              have h4 := HB4.out.size
              have h6 := HB6.out.size
              rcases st7.at_ with e7 | ⟨g', e7, hg'⟩
              · have := (HG6.out g (e7.symm.trans h)).1; omega
              · rw [e7] at h; cases h; omega)
            have HM1 := hid (show plen n width = plen (n / 10 ^ t) 0 + t from plen_split n t width HP.out 0 (by rw [if_neg (by omega)]))
            have hlm := plen_bound n width hn hw
            have hA : plen (n / 10 ^ t) 0 ≤ 70000 := by have := HM1.out; omega
            clear own7 st7
            go_wp2_with fail
            refine (zzpad_int w'.heap.size _ (n % 10 ^ t) _ t v7 _ w7 HM.out HO7.out (by have := Nat.mod_le n (10 ^ t); omega) (by omega) (by omega) (.inr (by omega)) (by omega) HB7.out.size HV7.out (HT.out.on HB7.out)).mono ?_
            rintro e w8 ⟨v8, rfl, own8, st8⟩
            have HB8 := hid (HB7.out.trans (st8.below HB7.out.size HV7.out))
            have hst := HST7.out.trans st8
            have own3 := hst.other HO3a.out (.inr (by
              intro e
              have h := (HG6.out g3 e.symm).1
              have := HG3.out
              omega))
            rw [text_length, plen_rem (n % 10 ^ t) t (Nat.mod_lt _ (Nat.pow_pos (by omega))) (by omega), Nat.add_assoc, ← HM1.out, List.append_assoc, ← byteCells_append, ← text_split, ← HM1.out] at own8
            obtain ⟨a8, c8, e8, -, -, -, -⟩ := owns_form own8
            have h9 := equal_owned (ys1 := []) (ys2 := []) (by rw [List.append_nil]; exact own8) (by rw [List.append_nil]; exact own3) (u8_append HX.out (text n (plen n width))) _ _ _ _ c8 c3 _ _ e8 rfl
            rw [List.length_append, byteCells_length, text_length, HXL.out] at h9
            have H9 := hid h9
            subst e8
            clear own8 st8 hst own3 h9
            go_wp2_with (go_at_call 9; refine H9.out.mono ?_; rintro e w9 ⟨rfl, b9⟩)
            go_ret
            exact ⟨rfl, HB8.out.trans (b9.mono HB8.out.size)⟩
        · go_wp2
          go_ret
          exact ⟨rfl, HB4.out⟩
  · by_cases hk1 : 1 ≤ k
    · have hk2 : ¬ k ≤ 18 := by omega
      have d4 : decide (1 ≤ k) = true := by simpa using hk1
      have d5 : decide (k ≤ 18) = false := by simpa using hk2
      go_wp2
      go_ret
      exact ⟨rfl, HB4.out⟩
    · have d4 : decide (1 ≤ k) = false := by simpa using hk1
      go_wp2
      go_ret
      exact ⟨rfl, HB4.out⟩
end Go.Proofs.Qxb6619304aDoor.splits
