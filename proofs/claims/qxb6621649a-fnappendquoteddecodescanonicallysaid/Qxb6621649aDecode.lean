/-
  FnAppendQuotedDecodesCanonically: the walk.
-/
import Derived.Test.Qxb6621649aUnq
namespace Go.Proofs.Qxb6621649a.decode
open Go Go.RowKit Go.Lib

/-! ### zzBytes -/

set_option maxRecDepth 100000 in
theorem bytes_yes (a : Option Addr) (len cap : Nat) (s : ByteArray) (w : World) (h : len + s.size ≤ 1048576) :
    Calls Try.prog 6 #[.slice a len cap, .string s] w fun e w' => e = .returned (.bool true) ∧ w' = w := by
  have d1 : decide (1048576 < (len : Int)) = false := by simp; omega
  have d2 : decide (1048576 < (s.size : Int)) = false := by simp; omega
  have d3 : decide (1048576 < (len : Int) + (s.size : Int)) = false := by simp; omega
  go_enter Try.func6, Try.ntmps6
  go_wp2
  go_ret
  exact ⟨rfl, rfl⟩

set_option maxRecDepth 100000 in
theorem bytes_no (a : Option Addr) (len cap : Nat) (s : ByteArray) (w : World) (hl : len ≤ maxLen) (hs : s.size ≤ maxLen) (h : 1048576 < len + s.size) :
    Calls Try.prog 6 #[.slice a len cap, .string s] w fun e w' => e = .returned (.bool false) ∧ w' = w := by
  unfold maxLen at hl hs
  by_cases h1 : 1048576 < len
  · have d1 : decide (1048576 < (len : Int)) = true := by simp; omega
    go_enter Try.func6, Try.ntmps6
    go_wp2
    go_ret
    exact ⟨rfl, rfl⟩
  have d1 : decide (1048576 < (len : Int)) = false := by simp; omega
  by_cases h2 : 1048576 < s.size
  · have d2 : decide (1048576 < (s.size : Int)) = true := by simp; omega
    go_enter Try.func6, Try.ntmps6
    go_wp2
    go_ret
    exact ⟨rfl, rfl⟩
  have d2 : decide (1048576 < (s.size : Int)) = false := by simp; omega
  have d3 : decide (1048576 < (len : Int) + (s.size : Int)) = true := by simp; omega
  go_enter Try.func6, Try.ntmps6
  go_wp2
  go_ret
  exact ⟨rfl, rfl⟩

theorem walk_out (a : Option Addr) (len cap : Nat) (s : ByteArray) (w : World) (hl : len ≤ maxLen) (hs : s.size ≤ maxLen) (h : 1048576 < len + s.size) :
    Calls Try.prog 3 #[.slice a len cap, .string s] w fun e w' => e = .returned (.bool true) ∧ Below w.heap.size w w' := by
  have HL := hid hl
  have HS := hid hs
  have H := hid h
  clear hl hs h
  go_enter Try.func3, Try.ntmps3
  go_wp2_with fail
  refine (bytes_no _ _ _ _ _ HL.out HS.out H.out).mono ?_
  rintro e w' ⟨rfl, rfl⟩
  go_wp2
  go_ret
  exact ⟨rfl, Below.refl _ _⟩

/-! ### zzAsmB1BytesAreString -/

theorem same_zero (a : Option Addr) (c : Nat) (s : ByteArray) (w : World) (h : s.size = 0) : Calls Try.prog 11 #[.slice a 0 c, .string s] w fun e w' => e = .returned (.bool true) ∧ Below w.heap.size w w' := by
  go_enter Try.func11, Try.ntmps11
  go_wp2_with fail
  go_loop [5] (fun i => i = .int .i64 0) (fun _ => 0)
  case atStart => rfl
  case round =>
    obtain rfl := hrel
    go_wp2
    go_ret
    exact ⟨rfl, Below.refl _ _⟩

set_option maxRecDepth 100000 in
theorem same_some (g n c : Nat) (s : ByteArray) (w : World) (hn : s.size = n) (hm : n ≤ 1048576) (hc : ∀ i (h : i < s.size), w.cell? ⟨g, i, none⟩ = some (.int .u8 (s[i].toNat : Int))) :
    Calls Try.prog 11 #[.slice (some ⟨g, 0, none⟩) n c, .string s] w fun e w' => e = .returned (.bool true) ∧ Below w.heap.size w w' := by
  have HC := hid hc
  clear hc
  go_enter Try.func11, Try.ntmps11
  go_wp2_with fail
  go_loopw [5] (fun i wr => ∃ k q : Nat, k ≤ n ∧ i = .int .i64 k ∧ wr = w.drewN q) (fun i _ => n - (RowKit.intOf i).toNat)
  case atStart => exact ⟨0, 0, by omega, rfl, rfl⟩
  case round =>
    obtain ⟨k, q, hk, rfl, rfl⟩ := hrel
    by_cases hlt : k < n
    · have ck := HC.out k (by omega)
      have hks : k < s.size := by omega
      obtain ⟨z, hz⟩ : ∃ z : Int, (s[k].toNat : Int) = z := ⟨_, rfl⟩
      have hix : ∀ wx, (Instr.index 9 (.string s) (.int .i64 k)).run Try.prog wx = .ok (.int .u8 z) wx := by
        intro wx
        rw [run_index_string wx 9 s .i64 k Try.underlying9, dif_pos ⟨by omega, by omega⟩, ← hz]
        simp only [Int.toNat_natCast]
      rw [hz] at ck
      go_wp2_with fail
      go_quiet (fail)
      go_wp2
      exact ⟨⟨k + 1, q + nq, by omega, by go_num, rfl⟩, by simp [RowKit.intOf]; omega⟩
    · go_wp2
      go_ret
      exact ⟨rfl, below_drewN (Below.refl _ _) _⟩

theorem same_owned {w : World} {v : Value} {n : Nat} {s : ByteArray} (h : w.ownsRow 0 5 1 v n (byteCells s.data.toList)) (hm : s.size ≤ 1048576) : Calls Try.prog 11 #[v, .string s] w fun e w' => e = .returned (.bool true) ∧ Below w.heap.size w w' := by
  have hl : s.size = n := by
    have := h.1
    rw [byteCells_length, Array.length_toList, Nat.mul_one] at this
    exact this
  rcases h.2 with ⟨rfl, h0⟩ | ⟨g, cap, cur, rfl, -⟩
  · exact same_zero none 0 s w (by omega)
  · refine same_some g n cap s w hl (by omega) fun i hi => ?_
    have hz : (⟨g, i, none⟩ : Addr) = (⟨g, 0, none⟩ : Addr).add i := by rw [Lib.add_plain, Nat.zero_add]
    rw [hz]
    refine h.cells (g := g) rfl i _ ?_
    have hi' : i < s.data.toList.length := by rw [Array.length_toList]; exact hi
    rw [byteCells, List.getElem?_map, List.getElem?_eq_getElem hi']
    rfl

/-! ### The law -/

theorem src_len {w : World} {v : Value} {n : Nat} {xs : List Value} (h : Src w v n xs) : xs.length = n := by
  rcases h with ⟨-, rfl, rfl⟩ | ⟨_, _, -, h, -, -⟩
  · rfl
  · exact h

/-- A cell of the literal behind the prefix. -/
theorem lit_cell {w : World} {g n c N len : Nat} {xs : List Value} {l : List UInt8} (h : w.ownsRow 0 5 1 (.slice (some ⟨g, 0, none⟩) n c) N (xs ++ byteCells l)) (hl : xs.length = len) {t : Nat} {b : UInt8} (hb : l[t]? = some b) :
    w.cell? ⟨g, len + t, none⟩ = some (.int .u8 (b.toNat : Int)) := by
  have := h.cells (g := g) rfl (len + t) (.int .u8 (b.toNat : Int)) (by
    rw [List.getElem?_append_right (by omega), hl, show len + t - len = t by omega, byteCells, List.getElem?_map, hb]
    rfl)
  rwa [Lib.add_plain, Nat.zero_add] at this

theorem quote_first (S : List UInt8) : (quote S)[0]? = some 34 := rfl
theorem quote_last (S : List UInt8) : (quote S)[(S.flatMap esc).length + 1]? = some 34 := by
  unfold quote qpre
  rw [List.getElem?_append_right (by simp)]
  simp
theorem quote_mid (S : List UInt8) {t : Nat} {b : UInt8} (h : (S.flatMap esc)[t]? = some b) : (quote S)[t + 1]? = some b := by
  have ht := (List.getElem?_eq_some_iff.1 h).1
  unfold quote qpre
  rw [List.getElem?_append_left (by rw [List.length_cons]; omega)]
  simpa using h
theorem quote_size (S : List UInt8) : (quote S).length = (S.flatMap esc).length + 2 := by simp [quote, qpre]

set_option maxHeartbeats 4000000 in
set_option maxRecDepth 100000 in
theorem walk_in (a : Option Addr) (len cap : Nat) (s : ByteArray) (xs : List Value) (w : World) (h : len + s.size ≤ 1048576) (hsrc : Src w (.slice a len cap) len xs) (hxs : ∀ u ∈ xs, ∃ z : Int, u = .int .u8 z) :
    Calls Try.prog 3 #[.slice a len cap, .string s] w fun e w' => e = .returned (.bool true) ∧ Below w.heap.size w w' := by
  have d1 : decide (1048576 < (len : Int)) = false := by simp; omega
  have d2 : decide (1048576 < (s.size : Int)) = false := by simp; omega
  have d3 : decide (1048576 < (len : Int) + (s.size : Int)) = false := by simp; omega
  have H := hid h
  have HS := hid hsrc
  have HX := hid hxs
  have HXL := hid (src_len hsrc)
  clear hsrc hxs
  have hfl := (flat_len s.data.toList).2
  have hsl : s.data.toList.length = s.size := Array.length_toList
  rw [hsl] at hfl
  obtain ⟨m, hm⟩ : ∃ m, (s.data.toList.flatMap esc).length = m := ⟨_, rfl⟩
  have hm4 : m ≤ 4 * s.size := by rw [hm] at hfl; exact hfl
  have HM := hid hm
  clear hfl hm hsl
  go_enter Try.func3, Try.ntmps3
  go_wp2_with fail
  refine (bytes_yes _ _ _ _ _ H.out).mono ?_
  rintro e w' ⟨rfl, rfl⟩
  go_wp2_with fail
  refine (clone_any _ len xs w' (by omega) HS.out).mono ?_
  rintro e w1 ⟨v1, rfl, own1, b1, g1⟩
  have HO1 := hid own1
  have HB1 := hid b1
  have HG1 := hid g1
  clear own1 b1 g1 HS
  go_wp2_with fail
  refine (clone_any v1 len xs w1 (by omega) (src_of_owns HO1.out (u8cells_one HX.out))).mono ?_
  rintro e w2 ⟨v2, rfl, own2, b2, g2⟩
  have HO2 := hid own2
  have HO1' := hid (ownsRow_below HO1.out b2)
  have HB2 := hid (HB1.out.trans (b2.mono HB1.out.size))
  have HG2 := hid g2
  clear own2 b2 g2
  go_wp2_with fail
  refine (zzquote_any len s v1 xs w2 HO1'.out (by omega) (by omega)).mono ?_
  rintro e w3 ⟨v3, rfl, own3, st3⟩
  rw [quote_size, HM.out] at own3
  have HB3 := hid (HB2.out.trans (st3.below HB2.out.size (fun g h => by have := (HG1.out g h).1; omega)))
  have hne : ∀ g, v2.ownBlock = some g → v1.ownBlock ≠ some g := by
    intro g hg e
    have h2 := (HG2.out g hg).1
    have h3 := HG1.out g e
    omega
  have HO2' := hid (st3.keep HO2.out hne)
  have HO3 := hid own3
  clear own3 st3 hne HO1 HO1' HO2 HB1 HB2 HG1 HG2
  obtain ⟨a2, c2, e2, -, -, -, -⟩ := owns_form HO2'.out
  obtain ⟨a3, c3, e3, hle3, hmx3, hnil3, hs3⟩ := owns_form HO3.out
  obtain ⟨x3, rfl⟩ : ∃ x, a3 = some x := by
    cases a3 with
    | none => have := (hnil3 rfl).1; omega
    | some x => exact ⟨x, rfl⟩
  obtain ⟨g3, rfl, -⟩ := hs3 x3 rfl
  have H9 := hid (equal_owned (ys2 := []) HO3.out (by rw [List.append_nil]; exact HO2'.out) HX.out _ _ _ _ c3 c2 _ _ e3 e2)
  rw [HXL.out] at H9
  subst e2 e3
  clear hnil3 hs3
  unfold maxLen at hmx3
  have d4 : decide ((len : Int) + ((m : Int) + 2) < (len : Int) + 2) = false := by simp; omega
  go_wp2_with fail
  refine H9.out.mono ?_
  rintro e w4 ⟨rfl, b4⟩
  have HO4 := hid (ownsRow_below HO3.out b4)
  have HB4 := hid (HB3.out.trans (b4.mono HB3.out.size))
  clear b4 H9 HO3 HO2' HB3
  have c0 : w4.cell? ⟨g3, len, none⟩ = some (.int .u8 34) := lit_cell HO4.out HXL.out (quote_first _)
  have c1 : w4.cell? ⟨g3, len + (m + 1), none⟩ = some (.int .u8 34) := by
    have := lit_cell HO4.out HXL.out (quote_last _)
    rw [HM.out] at this
    exact this
  have HU := hid (fun cap => unquote s.data.toList g3 (len + 1) m cap w4 (by rw [Array.length_toList]; have : s.data.size = s.size := rfl; omega) HM.out (owns_lt HO4.out g3 rfl) (fun k hk t ht => by
    have := lit_cell HO4.out HXL.out (quote_mid _ (esc_at _ k hk t ht))
    rw [show len + 1 + (pos s.data.toList k + t) = len + (pos s.data.toList k + t + 1) by omega]
    exact this))
  go_wp2_with fail
  have hsub : len + (m + 1) - (len + 1) = m := by omega
  rw [hsub]
  refine (HU.out _).mono ?_
  rintro e w5 ⟨v5, rfl, own5, b5⟩
  have H11 := hid (same_owned own5 (by omega))
  have HB5 := hid (HB4.out.trans (b5.mono HB4.out.size))
  clear own5 b5 HU HO4 HB4 c0 c1
  go_wp2_with fail
  refine H11.out.mono ?_
  rintro e w6 ⟨rfl, b6⟩
  have HB6 := hid (HB5.out.trans (b6.mono HB5.out.size))
  clear b6 H11 HB5
  go_wp2
  go_ret
  exact ⟨rfl, HB6.out⟩

theorem walk (a : Option Addr) (len cap : Nat) (s : ByteArray) (xs : List Value) (w : World) (hl : len ≤ maxLen) (hs : s.size ≤ maxLen) (hsrc : Src w (.slice a len cap) len xs) (hxs : ∀ u ∈ xs, ∃ z : Int, u = .int .u8 z) :
    Calls Try.prog 3 #[.slice a len cap, .string s] w fun e w' => e = .returned (.bool true) ∧ Below w.heap.size w w' := by
  by_cases h : len + s.size ≤ 1048576
  · exact walk_in a len cap s xs w h hsrc hxs
  · exact walk_out a len cap s w hl hs (by omega)
end Go.Proofs.Qxb6621649a.decode
