/-
  The plain mathematics of a padded decimal numeral. No Go in this text.
-/
import Derived.Lib.ItoaNum
import Derived.Lib.ItoaLen
namespace Go.Proofs.Qxb6619304aDoor
open Go.Lib

/-- n's decimal digits at the fixed length m. -/
def text (n m : Nat) : List UInt8 := (List.range m).map fun t => dg n (m - 1 - t)

theorem text_length (n m : Nat) : (text n m).length = m := by simp [text]
theorem text_at (n m k : Nat) (h : k < m) : (text n m)[k]? = some (dg n (m - 1 - k)) := by simp [text, h]

theorem dg_high {n j : Nat} (h : n < 10 ^ j) : dg n j = 48 := by
  unfold dg; rw [Nat.div_eq_of_lt h]; rfl

theorem dg_toNat (n j : Nat) : (dg n j).toNat = 48 + n / 10 ^ j % 10 := by
  unfold dg
  have := Nat.mod_lt (n / 10 ^ j) (show 0 < 10 by omega)
  rw [UInt8.toNat_ofNat']
  omega

theorem text_pad (n z : Nat) : text n (z + nDigits n) = List.replicate z 48 ++ decDigits n := by
  rw [decDigits_eq]
  unfold text
  rw [List.range_add, List.map_append, List.map_map]
  congr 1
  · apply List.ext_getElem?
    intro i
    by_cases hi : i < z
    · have h1 : n < 10 ^ (z + nDigits n - 1 - i) := Nat.lt_of_lt_of_le (lt_pow_nDigits n) (Nat.pow_le_pow_right (by omega) (by omega))
      simp [hi, dg_high h1]
    · simp [hi]
  · apply List.map_congr_left
    intro t _
    show dg n (z + nDigits n - 1 - (z + t)) = _
    congr 1
    omega

/-- How long the padded numeral is. -/
def plen (n : Nat) (width : Int) : Nat := max (nDigits n) width.toNat

theorem pow_le_of_nDigits (n k : Nat) (h : k + 1 ≤ nDigits n) (hk : 1 ≤ k) : 10 ^ k ≤ n := by
  rcases Nat.lt_or_ge n (10 ^ k) with hlt | hge
  · exfalso
    rcases Nat.lt_or_ge n 10 with h10 | h10
    · rw [nDigits_small h10] at h; omega
    · have : ∀ m : Nat, ∀ n, n < 10 ^ m → 1 ≤ m → nDigits n ≤ m := by
        intro m
        induction m with
        | zero => intro n _ h; omega
        | succ m ih =>
          intro n hn _
          rcases Nat.lt_or_ge n 10 with h1 | h1
          · rw [nDigits_small h1]; omega
          · rw [nDigits_big (by omega)]
            have hm : 1 ≤ m := by
              rcases Nat.eq_zero_or_pos m with e | e
              · subst e; simp at hn; omega
              · exact e
            have := ih (n / 10) (by rw [Nat.pow_succ] at hn; omega) hm
            omega
      have := this k n hlt hk
      omega
  · exact hge

theorem nDigits_of_pow (n k : Nat) (h : 10 ^ k ≤ n) : k + 1 ≤ nDigits n := by
  rcases Nat.lt_or_ge (nDigits n) (k + 1) with hlt | hge
  · have h1 := lt_pow_nDigits n
    have h2 : 10 ^ nDigits n ≤ 10 ^ k := Nat.pow_le_pow_right (by omega) (by omega)
    omega
  · exact hge

theorem nDigits_of_lt (n k : Nat) (h : n < 10 ^ (k + 1)) : nDigits n ≤ k + 1 := by
  rcases Nat.lt_or_ge (k + 1) (nDigits n) with hlt | hge
  · have := pow_le_of_nDigits n (k + 1) (by omega) (by omega)
    omega
  · exact hge

/-! ### The first loop: the count of digits beyond the first -/

/-- After j rounds: q is the next power of ten, as long as it fits. -/
structure L1 (n : Nat) (width : Int) (j : Nat) (q : Int) : Prop where
  le : j ≤ 18
  pow : j ≤ 17 → q = ((10 ^ (j + 1) : Nat) : Int)
  hit : j = 0 ∨ (10 ^ j ≤ n ∧ 1 ≤ width - j)

theorem L1.start (n : Nat) (width : Int) : L1 n width 0 10 := ⟨by omega, fun _ => rfl, .inl rfl⟩

theorem pow_small (j : Nat) (h : j ≤ 16) : 10 ^ (j + 1) * 10 ≤ 1000000000000000000 := by
  have : 10 ^ (j + 1) ≤ 10 ^ 17 := Nat.pow_le_pow_right (by omega) (by omega)
  have e : 10 ^ 17 = 100000000000000000 := by decide
  omega

/-- The corner is shut out: a round never begins with j = 18. -/
theorem L1.lt {n : Nat} {width : Int} {j : Nat} {q : Int} (h : L1 n width j q) (hno : n < 1000000000000000000 ∨ width ≤ 19) (hw : 1 < width - j) : j ≤ 17 := by
  rcases Nat.lt_or_ge j 18 with hj | hj
  · omega
  · have ej : j = 18 := by have := h.le; omega
    subst ej
    rcases h.hit with h0 | ⟨h1, -⟩
    · omega
    · have e : 10 ^ 18 = 1000000000000000000 := by decide
      rw [e] at h1
      rcases hno with h2 | h2 <;> omega

theorem L1.next {n : Nat} {width : Int} {j : Nat} {q q' : Int} (h : L1 n width j q) (hj : j ≤ 17) (hq : q ≤ n) (hw : 1 < width - j) (hq' : j ≤ 16 → q' = q * 10) : L1 n width (j + 1) q' := by
  have hp := h.pow hj
  refine ⟨by omega, fun h17 => ?_, .inr ⟨by omega, by omega⟩⟩
  rw [hq' (by omega), hp]
  rw [Nat.pow_succ 10 (j + 1)]
  omega

/-- How many 0s the second loop lays: as many as the padded length asks. -/
theorem L1.zeros {n : Nat} {width : Int} {j : Nat} {q : Int} (h : L1 n width j q) (hn : n < 10000000000000000000) (_hno : n < 1000000000000000000 ∨ width ≤ 19) (hex : (n : Int) < q ∨ width - j ≤ 1) :
    (width - j - 1).toNat + nDigits n = plen n width := by
  have hpos := nDigits_pos n
  unfold plen
  rcases Nat.lt_or_ge 17 j with h17 | h17
  · have ej : j = 18 := by have := h.le; omega
    subst ej
    rcases h.hit with h0 | ⟨h1, h2⟩
    · omega
    · have hd := nDigits_of_pow n 18 h1
      have hd2 := nDigits_of_lt n 18 (by have e : 10 ^ (18 + 1) = 10000000000000000000 := by decide
                                         omega)
      have e : 10 ^ 18 = 1000000000000000000 := by decide
      rw [e] at h1
      omega
  · have hp := h.pow h17
    rcases hex with hlt | hle
    · have hd2 := nDigits_of_lt n j (by omega)
      have hd1 : j + 1 ≤ nDigits n := by
        rcases h.hit with h0 | ⟨h1, -⟩
        · omega
        · exact nDigits_of_pow n j h1
      omega
    · have hd1 : j + 1 ≤ nDigits n := by
        rcases h.hit with h0 | ⟨h1, -⟩
        · omega
        · exact nDigits_of_pow n j h1
      omega
end Go.Proofs.Qxb6619304aDoor
