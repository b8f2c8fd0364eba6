/-
  FnAppendQuotedSplitsAtAnyCut: the walk.
-/
import Derived.Test.Qxb6621649aZz
namespace Go.Proofs.Qxb6621649a.split
open Go Go.RowKit Go.Lib

/-! ### zzBytes -/

set_option maxRecDepth 100000 in
theorem bytes_yes (a : Option Addr) (len cap : Nat) (s : ByteArray) (k : Int) (w : World) (h : len + s.size ≤ 1048576) :
    Calls Try.prog 12 #[.slice a len cap, .string s, .int .i64 k] w fun e w' => e = .returned (.bool true) ∧ w' = w := by
  have d1 : decide (1048576 < (len : Int)) = false := by simp; omega
  have d2 : decide (1048576 < (s.size : Int)) = false := by simp; omega
  have d3 : decide (1048576 < (len : Int) + (s.size : Int)) = false := by simp; omega
  go_enter Try.func12, Try.ntmps12
  go_wp2
  go_ret
  exact ⟨rfl, rfl⟩

set_option maxRecDepth 100000 in
theorem bytes_no (a : Option Addr) (len cap : Nat) (s : ByteArray) (k : Int) (w : World) (hl : len ≤ maxLen) (hs : s.size ≤ maxLen) (h : 1048576 < len + s.size) :
    Calls Try.prog 12 #[.slice a len cap, .string s, .int .i64 k] w fun e w' => e = .returned (.bool false) ∧ w' = w := by
  unfold maxLen at hl hs
  by_cases h1 : 1048576 < len
  · have d1 : decide (1048576 < (len : Int)) = true := by simp; omega
    go_enter Try.func12, Try.ntmps12
    go_wp2
    go_ret
    exact ⟨rfl, rfl⟩
  have d1 : decide (1048576 < (len : Int)) = false := by simp; omega
  by_cases h2 : 1048576 < s.size
  · have d2 : decide (1048576 < (s.size : Int)) = true := by simp; omega
    go_enter Try.func12, Try.ntmps12
    go_wp2
    go_ret
    exact ⟨rfl, rfl⟩
  have d2 : decide (1048576 < (s.size : Int)) = false := by simp; omega
  have d3 : decide (1048576 < (len : Int) + (s.size : Int)) = true := by simp; omega
  go_enter Try.func12, Try.ntmps12
  go_wp2
  go_ret
  exact ⟨rfl, rfl⟩

theorem walk_out (a : Option Addr) (len cap : Nat) (s : ByteArray) (k : Int) (w : World) (hl : len ≤ maxLen) (hs : s.size ≤ maxLen) (h : 1048576 < len + s.size) :
    Calls Try.prog 4 #[.slice a len cap, .string s, .int .i64 k] w fun e w' => e = .returned (.bool true) ∧ Below w.heap.size w w' := by
  have HL := hid hl
  have HS := hid hs
  have H := hid h
  clear hl hs h
  go_enter Try.func4, Try.ntmps4
  go_wp2_with fail
  refine (bytes_no _ _ _ _ _ _ HL.out HS.out H.out).mono ?_
  rintro e w' ⟨rfl, rfl⟩
  go_wp2
  go_ret
  exact ⟨rfl, Below.refl _ _⟩

theorem walk_cut (a : Option Addr) (len cap : Nat) (s : ByteArray) (k : Int) (w : World) (h : len + s.size ≤ 1048576) (hk : k < 0 ∨ (s.size : Int) < k) :
    Calls Try.prog 4 #[.slice a len cap, .string s, .int .i64 k] w fun e w' => e = .returned (.bool true) ∧ Below w.heap.size w w' := by
  have d1 : decide (1048576 < (len : Int)) = false := by simp; omega
  have d2 : decide (1048576 < (s.size : Int)) = false := by simp; omega
  have d3 : decide (1048576 < (len : Int) + (s.size : Int)) = false := by simp; omega
  have H := hid h
  by_cases h0 : k < 0
  · clear hk
    have d4 : decide (k < 0) = true := by simpa using h0
    go_enter Try.func4, Try.ntmps4
    go_wp2_with fail
    refine (bytes_yes _ _ _ _ _ _ H.out).mono ?_
    rintro e w' ⟨rfl, rfl⟩
    go_wp2
    go_ret
    exact ⟨rfl, Below.refl _ _⟩
  · have hk' : (s.size : Int) < k := by omega
    clear hk
    have d4 : decide (k < 0) = false := by simpa using h0
    have d5 : decide ((s.size : Int) < k) = true := by simpa using hk'
    go_enter Try.func4, Try.ntmps4
    go_wp2_with fail
    refine (bytes_yes _ _ _ _ _ _ H.out).mono ?_
    rintro e w' ⟨rfl, rfl⟩
    go_wp2
    go_ret
    exact ⟨rfl, Below.refl _ _⟩

theorem src_len {w : World} {v : Value} {n : Nat} {xs : List Value} (h : Src w v n xs) : xs.length = n := by
  rcases h with ⟨-, rfl, rfl⟩ | ⟨_, _, -, h, -, -⟩
  · rfl
  · exact h

theorem parts (s : ByteArray) (k : Nat) : ∃ l0 r0, quote (s.extract 0 k).data.toList = l0 ++ [34] ∧ quote (s.extract k s.size).data.toList = 34 :: r0 ∧ quote s.data.toList = l0 ++ r0 ∧ 1 ≤ l0.length ∧ 1 ≤ r0.length := by
  have hl : (s.extract 0 k).data.toList = s.data.toList.take k := by
    rw [extract_data]; rfl
  have hr : (s.extract k s.size).data.toList = s.data.toList.drop k := by
    rw [extract_data, List.take_of_length_le]
    rw [List.length_drop, Array.length_toList]; exact Nat.le_refl _
  refine ⟨qpre (s.data.toList.take k), (s.data.toList.drop k).flatMap esc ++ [34], by rw [hl]; rfl, by rw [hr]; rfl, ?_, by simp [qpre], by simp⟩
  have hc := quote_cut (s.data.toList.take k) (s.data.toList.drop k)
  rw [List.take_append_drop] at hc
  rw [hc]
  have h1 : (quote (s.data.toList.take k)).dropLast = qpre (s.data.toList.take k) := by unfold quote; exact List.dropLast_concat
  rw [h1]
  rfl

/-- The literal's own bytes, in its row. -/
theorem lit_cells {w : World} {g n c N len : Nat} {xs : List Value} {l : List UInt8} {m : List UInt8} (h : w.ownsRow 0 5 1 (.slice (some ⟨g, 0, none⟩) n c) N ((xs ++ byteCells l) ++ [])) (hl : xs.length = len) (hq : quote m = l) (top : Nat) (ht : len + l.length = top) :
    ∀ i, len ≤ i → i < top → ∃ z : Int, 32 ≤ z ∧ z ≤ 126 ∧ w.cell? ⟨g, i, none⟩ = some (.int .u8 z) := by
  intro i h1 h2
  have hi : i - len < l.length := by omega
  have hb := quote_range m l[i - len] (by rw [hq]; exact List.getElem_mem hi)
  refine ⟨(l[i - len].toNat : Int), by omega, by omega, ?_⟩
  have := h.cells (g := g) rfl i (.int .u8 (l[i - len].toNat : Int)) (by
    rw [List.append_nil, List.getElem?_append_right (by omega), hl]
    simp [byteCells, hi])
  rwa [Lib.add_plain, Nat.zero_add] at this

set_option maxHeartbeats 4000000 in
set_option maxRecDepth 100000 in
theorem walk_in (a : Option Addr) (len cap : Nat) (s : ByteArray) (k : Nat) (xs : List Value) (w : World) (h : len + s.size ≤ 1048576) (hk : k ≤ s.size) (hsrc : Src w (.slice a len cap) len xs) (hxs : ∀ u ∈ xs, ∃ z : Int, u = .int .u8 z) :
    Calls Try.prog 4 #[.slice a len cap, .string s, .int .i64 k] w fun e w' => e = .returned (.bool true) ∧ Below w.heap.size w w' := by
  obtain ⟨i0, hi, hz0, hz1, hz2⟩ := info_parts infoByte
  have d1 : decide (1048576 < (len : Int)) = false := by simp; omega
  have d2 : decide (1048576 < (s.size : Int)) = false := by simp; omega
  have d3 : decide (1048576 < (len : Int) + (s.size : Int)) = false := by simp; omega
  have d4 : decide ((k : Int) < 0) = false := by simp
  have d5 : decide ((s.size : Int) < (k : Int)) = false := by simp; omega
  have H := hid h
  have HS := hid hsrc
  have HX := hid hxs
  have HXL := hid (src_len hsrc)
  clear hsrc hxs
  go_enter Try.func4, Try.ntmps4
  go_wp2_with fail
  refine (bytes_yes _ _ _ _ _ _ H.out).mono ?_
  rintro e w' ⟨rfl, rfl⟩
  go_wp2_with fail
  refine (clone_any _ len xs w' (by omega) HS.out).mono ?_
  rintro e w1 ⟨v1, rfl, own1, b1, g1⟩
  have HO1 := hid own1
  have HB1 := hid b1
  have HG1 := hid g1
  clear own1 b1 g1 HS
  go_wp2_with fail
  refine (clone_any v1 len xs w1 (by omega) (src_of_owns HO1.out (u8cells_one HX.out))).mono ?_
  rintro e w2 ⟨v2, rfl, own2, b2, g2⟩
  have HO2 := hid own2
  have HO1' := hid (ownsRow_below HO1.out b2)
  have HB2 := hid (HB1.out.trans (b2.mono HB1.out.size))
  have HG2 := hid g2
  clear own2 b2 g2
  go_wp2_with fail
  refine (zzquote_any len s v1 xs w2 HO1'.out (by omega) (by omega)).mono ?_
  rintro e w3 ⟨v3, rfl, own3, st3⟩
  have HB3 := hid (HB2.out.trans (st3.below HB2.out.size (fun g h => by have := (HG1.out g h).1; omega)))
  have hne : ∀ g, v2.ownBlock = some g → v1.ownBlock ≠ some g := by
    intro g hg e
    have h2 := (HG2.out g hg).1
    have h3 := HG1.out g e
    omega
  have HO2' := hid (st3.keep HO2.out hne)
  have HO3 := hid own3
  clear own3 st3 hne HO1 HO1' HO2 HB1 HB2 HG1 HG2
  go_wp2_with fail
  obtain ⟨l0, r0, hl0, hr0, hlr, hl1, hr1⟩ := parts s k
  have hq := quote_len s.data.toList
  rw [hlr, List.length_append, Array.length_toList] at hq
  have hsz : s.data.size = s.size := rfl
  rw [hsz] at hq
  obtain ⟨m4, hm4⟩ : ∃ m, l0.length = m := ⟨_, rfl⟩
  obtain ⟨m5, hm5⟩ : ∃ m, r0.length = m := ⟨_, rfl⟩
  rw [hm4] at hq hl1
  rw [hm5] at hq hr1
  have HL0 := hid hl0
  have HR0 := hid hr0
  have HLR := hid hlr
  have HM4 := hid hm4
  have HM5 := hid hm5
  clear hl0 hr0 hlr hm4 hm5 hsz
  refine (zzquote_any 0 (s.extract 0 k) (.slice none 0 0) [] w3 (World.ownsRow_nil _ _ _ _) (by simp; omega) (by omega)).mono ?_
  rintro e w4 ⟨v4, rfl, own4, st4⟩
  rw [HL0.out, List.length_append, HM4.out, List.nil_append, Nat.zero_add, byteCells_append, List.length_singleton] at own4
  have HO2a := hid (st4.keep HO2'.out (fun g _ h => by cases h))
  have HO3a := hid (st4.keep HO3.out (fun g _ h => by cases h))
  have HB4 := hid (HB3.out.trans (st4.below HB3.out.size (fun g h => by cases h)))
  have HO4 := hid own4
  clear own4 st4 HO2' HO3 HB3 HL0
  go_wp2_with fail
  refine (zzquote_any 0 (s.extract k s.size) (.slice none 0 0) [] w4 (World.ownsRow_nil _ _ _ _) (by simp; omega) (by omega)).mono ?_
  rintro e w5 ⟨v5, rfl, own5, st5⟩
  rw [HR0.out, List.length_cons, HM5.out, List.nil_append, Nat.zero_add] at own5
  have HO2b := hid (st5.keep HO2a.out (fun g _ h => by cases h))
  have HO3b := hid (st5.keep HO3a.out (fun g _ h => by cases h))
  have HO4b := hid (st5.keep HO4.out (fun g _ h => by cases h))
  have HB5 := hid (HB4.out.trans (st5.below HB4.out.size (fun g h => by cases h)))
  have HO5 := hid own5
  clear own5 st5 HO2a HO3a HO4 HB4 HR0
  obtain ⟨a2, c2, e2, -, -, -, -⟩ := owns_form HO2b.out
  obtain ⟨a4, c4, e4, hle4, hmx4, hnil4, hs4⟩ := owns_form HO4b.out
  obtain ⟨a5, c5, e5, hle5, hmx5, hnil5, hs5⟩ := owns_form HO5.out
  obtain ⟨a3, c3, e3, hle3, hmx3, hnil3, hs3⟩ := owns_form HO3b.out
  rw [HLR.out, List.length_append, HM4.out, HM5.out] at e3 hle3 hnil3
  obtain ⟨x3, rfl⟩ : ∃ x, a3 = some x := by
    cases a3 with
    | none => have := (hnil3 rfl).1; omega
    | some x => exact ⟨x, rfl⟩
  obtain ⟨x4, rfl⟩ : ∃ x, a4 = some x := by
    cases a4 with
    | none => have := (hnil4 rfl).1; omega
    | some x => exact ⟨x, rfl⟩
  obtain ⟨x5, rfl⟩ : ∃ x, a5 = some x := by
    cases a5 with
    | none => have := (hnil5 rfl).1; omega
    | some x => exact ⟨x, rfl⟩
  obtain ⟨g3, rfl, -⟩ := hs3 x3 rfl
  obtain ⟨g4, rfl, -⟩ := hs4 x4 rfl
  obtain ⟨g5, rfl, -⟩ := hs5 x5 rfl
  clear hnil3 hnil4 hnil5 hs3 hs4 hs5
  subst e2 e3 e4 e5
  unfold maxLen at hmx3 hmx4 hmx5
  have d6 : decide ((m4 : Int) + 1 < 2) = false := by simp; omega
  have d7 : decide ((m5 : Int) + 1 < 2) = false := by simp; omega
  obtain ⟨g6, w6, hmk, own6, b6, hg6, lt6⟩ := room (len + (m4 + 1) + (m5 + 1)) (by omega) w5
  have lt3 := owns_lt HO3b.out g3 rfl
  have lt4 := owns_lt HO4b.out g4 rfl
  have lt5 := owns_lt HO5.out g5 rfl
  have HO3c := hid (ownsRow_below HO3b.out b6)
  have HO4c := hid (ownsRow_below HO4b.out b6)
  have HO5c := hid (ownsRow_below HO5.out b6)
  have HA2 := hid (src_of_owns (ownsRow_below HO2b.out b6) (u8cells_one HX.out))
  have HB6 := hid (HB5.out.trans (b6.mono HB5.out.size))
  have HO6 := hid own6
  have HG := hid (show g3 < g6 ∧ g4 < g6 ∧ g5 < g6 ∧ g6 < w6.heap.size ∧ w'.heap.size ≤ g6 by have := HB5.out.size; omega)
  clear HO2b HO3b HO4b HO5 HB5 b6 own6 lt3 lt4 lt5 lt6 hg6
  simp at hmk
  go_wp2_with (at_builtin; refine wpList_append_src _ rfl _ _ 22 rfl 5 i0 Try.underlying22 hi hz0 hz1 hz2 _ _ _ rfl HO6.out _ _ _ rfl HA2.out ?c4 ?_)
  case c4 => omega
  intro v7 w7 own7 st7
  have HV7 := hid (show ∀ g, v7.ownBlock = some g → g6 ≤ g by
    intro g hg
    have := HG.out
    rcases st7.at_ with e | ⟨g', e, hg'⟩
    · rw [e] at hg; cases hg; exact Nat.le_refl _
    · rw [e] at hg; cases hg; omega)
  have HO3d := hid (st7.keep HO3c.out (fun g hg h => by cases hg; cases h; have := HG.out; omega))
  have HO4d := hid (st7.keep HO4c.out (fun g hg h => by cases hg; cases h; have := HG.out; omega))
  have HO5d := hid (st7.keep HO5c.out (fun g hg h => by cases hg; cases h; have := HG.out; omega))
  have HB7 := hid (HB6.out.trans (st7.below (by have := HG.out; omega) (fun g hg => by cases hg; exact HG.out.2.2.2.2)))
  have HO7 := hid (show w7.ownsRow 0 5 1 v7 len xs by simpa only [Nat.zero_add, List.nil_append] using own7)
  have HS7 := hid st7.grown.size
  clear own7 st7 HA2 HO3c HO4c HO5c HB6 hmk HO6
  go_wp2_with (at_builtin; refine wpList_append_src _ rfl _ _ 22 rfl 5 i0 Try.underlying22 hi hz0 hz1 hz2 _ _ _ rfl HO7.out _ _ _ rfl (src_part (xs := []) (ys := byteCells l0) (zs := byteCells [34]) HO4d.out (u8_append (u8_byteCells _) _) rfl (by rw [byteCells_length]; exact HM4.out)) ?c4 ?_)
  case c4 => omega
  intro v8 w8 own8 st8
  have HV8 := hid (show ∀ g, v8.ownBlock = some g → g6 ≤ g by
    intro g hg
    have := HG.out
    have := HS7.out
    rcases st8.at_ with e | ⟨g', e, hg'⟩
    · rw [e] at hg; exact HV7.out g hg
    · rw [e] at hg; cases hg; omega)
  have HO3e := hid (st8.keep HO3d.out (fun g hg h => by cases hg; have := HV7.out g3 h; have := HG.out; omega))
  have HO5e := hid (st8.keep HO5d.out (fun g hg h => by cases hg; have := HV7.out g5 h; have := HG.out; omega))
  have HB8 := hid (HB7.out.trans (st8.below HB7.out.size (fun g hg => by have := HV7.out g hg; have := HG.out; omega)))
  have HO8 := hid (show w8.ownsRow 0 5 1 v8 (len + m4) (xs ++ byteCells l0) by exact own8)
  clear own8 st8 HO3d HO4d HO5d HB7 HO7 HV7
  go_wp2_with (at_builtin; refine wpList_append_src _ rfl _ _ 22 rfl 5 i0 Try.underlying22 hi hz0 hz1 hz2 _ _ _ rfl HO8.out _ _ _ rfl (src_part (xs := byteCells [34]) (ys := byteCells r0) (zs := []) (by rw [List.append_nil]; exact HO5e.out) (by rw [List.append_nil]; exact u8_append (u8_byteCells _) _) rfl (by rw [byteCells_length]; exact HM5.out)) ?c4 ?_)
  case c4 => omega
  intro v9 w9 own9 st9
  have HO3f := hid (st9.keep HO3e.out (fun g hg h => by cases hg; have := HV8.out g3 h; have := HG.out; omega))
  have HB9 := hid (HB8.out.trans (st9.below HB8.out.size (fun g hg => by have := HV8.out g hg; have := HG.out; omega)))
  have HO9 := hid (show w9.ownsRow 0 5 1 v9 (len + m4 + m5) (xs ++ (byteCells l0 ++ byteCells r0)) by exact own9)
  clear own9 st9 HO3e HO5e HB8 HO8 HV8
  obtain ⟨a9, c9, e9, -, -, -, -⟩ := owns_form HO9.out
  rw [Nat.add_assoc] at e9
  subst e9
  have hl : (xs ++ byteCells (l0 ++ r0)).length = len + (m4 + m5) := by rw [List.length_append, byteCells_length, List.length_append, HXL.out, HM4.out, HM5.out]
  have h3 : w9.ownsRow 0 5 1 (.slice (some ⟨g3, 0, none⟩) (len + (m4 + m5)) c3) (len + (m4 + m5)) ((xs ++ byteCells (l0 ++ r0)) ++ []) := by
    have := HO3f.out
    rw [HLR.out, List.length_append, HM4.out, HM5.out] at this
    rw [List.append_nil]; exact this
  have h9 : w9.ownsRow 0 5 1 (.slice a9 (len + (m4 + m5)) c9) (len + m4 + m5) ((xs ++ byteCells (l0 ++ r0)) ++ []) := by rw [List.append_nil, byteCells_append]; exact HO9.out
  have he := equal_owned h3 h9 (u8_append HX.out _) _ _ _ _ c3 c9 _ _ rfl rfl
  rw [hl] at he
  have HE := hid he
  have HO3g := hid h3
  clear he h3 h9 hl HO3f HO9
  go_wp2_with fail
  refine HE.out.mono ?_
  rintro e w10 ⟨rfl, b10⟩
  have HB10 := hid (HB9.out.trans (b10.mono HB9.out.size))
  have HC := hid (lit_cells (ownsRow_below HO3g.out b10) HXL.out HLR.out (len + (m4 + m5)) (by rw [List.length_append, HM4.out, HM5.out]))
  clear b10 HE HO3g HB9
  have d8 : decide ((m4 : Int) + (m5 : Int) < (s.size : Int) + 2) = false := by simp; omega
  have d9 : decide (4 * (s.size : Int) + 2 < (m4 : Int) + (m5 : Int)) = false := by simp; omega
  go_wp2_with fail
  go_loop [13] (fun i => ∃ j : Nat, len ≤ j ∧ j ≤ len + (m4 + m5) ∧ i = .int .i64 j) (fun i => len + (m4 + m5) - (RowKit.intOf i).toNat)
  case atStart => exact ⟨len, by omega, by omega, rfl⟩
  case round =>
    obtain ⟨j, hj1, hj2, rfl⟩ := hrel
    by_cases hlt : j < len + (m4 + m5)
    · obtain ⟨z, hz1, hz2, hc⟩ := HC.out j hj1 hlt
      have c1 : decide (z < 32) = false := by simpa using hz1
      have c2 : decide (126 < z) = false := by simpa using hz2
      go_wp2
      exact ⟨⟨j + 1, by omega, by omega, by go_num⟩, by simp [RowKit.intOf]; omega⟩
    · go_wp2
      go_ret
      exact ⟨rfl, HB10.out⟩

theorem walk (a : Option Addr) (len cap : Nat) (s : ByteArray) (k : Int) (xs : List Value) (w : World) (hl : len ≤ maxLen) (hs : s.size ≤ maxLen) (hsrc : Src w (.slice a len cap) len xs) (hxs : ∀ u ∈ xs, ∃ z : Int, u = .int .u8 z) :
    Calls Try.prog 4 #[.slice a len cap, .string s, .int .i64 k] w fun e w' => e = .returned (.bool true) ∧ Below w.heap.size w w' := by
  by_cases h : len + s.size ≤ 1048576
  · by_cases hk : k < 0 ∨ (s.size : Int) < k
    · exact walk_cut a len cap s k w h hk
    · obtain ⟨K, rfl⟩ := Int.eq_ofNat_of_zero_le (a := k) (by omega)
      exact walk_in a len cap s K xs w h (by omega) hsrc hxs
  · exact walk_out a len cap s k w hl hs (by omega)
end Go.Proofs.Qxb6621649a.split
