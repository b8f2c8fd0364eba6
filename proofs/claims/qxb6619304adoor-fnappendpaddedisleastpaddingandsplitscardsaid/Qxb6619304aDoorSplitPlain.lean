/-
  The plain mathematics of a padded numeral cut in two. No Go in this text.
-/
import Derived.Test.Qxb6619304aDoorPlain
namespace Go.Proofs.Qxb6619304aDoor
open Go.Lib

theorem dg_div (n k j : Nat) : dg (n / 10 ^ k) j = dg n (k + j) := by
  unfold dg; rw [Nat.div_div_eq_div_mul, ← Nat.pow_add]

theorem mod_div (n k j : Nat) (h : j < k) : n % 10 ^ k / 10 ^ j % 10 = n / 10 ^ j % 10 := by
  obtain ⟨d, rfl⟩ : ∃ d, k = j + (d + 1) := ⟨k - j - 1, by omega⟩
  rw [Nat.pow_add, Nat.mod_mul_right_div_self, Nat.pow_succ, Nat.mul_comm, Nat.mod_mul_right_mod]

theorem dg_mod (n k j : Nat) (h : j < k) : dg (n % 10 ^ k) j = dg n j := by
  unfold dg; rw [mod_div n k j h]

theorem text_split (n A k : Nat) : text n (A + k) = text (n / 10 ^ k) A ++ text (n % 10 ^ k) k := by
  unfold text
  rw [List.range_add, List.map_append, List.map_map]
  congr 1
  · apply List.map_congr_left
    intro t ht
    have ht' := List.mem_range.1 ht
    rw [dg_div]
    congr 1
    omega
  · apply List.map_congr_left
    intro t ht
    have ht' := List.mem_range.1 ht
    show dg n (A + k - 1 - (A + t)) = _
    rw [dg_mod n k _ (by omega)]
    congr 1
    omega

theorem nDigits_div : ∀ (k n : Nat), 10 ^ k ≤ n → nDigits (n / 10 ^ k) + k = nDigits n
  | 0, n, _ => by simp
  | k + 1, n, h => by
    have h10 : ¬ n < 10 := by
      have : 10 ^ 1 ≤ 10 ^ (k + 1) := Nat.pow_le_pow_right (by omega) (by omega)
      omega
    have h2 : 10 ^ k ≤ n / 10 := by
      rw [Nat.le_div_iff_mul_le (by omega)]
      rw [Nat.pow_succ] at h
      exact h
    have ih := nDigits_div k (n / 10) h2
    rw [nDigits_big h10, ← ih, Nat.div_div_eq_div_mul, Nat.pow_succ, Nat.mul_comm]
    omega

theorem plen_split (n k : Nat) (width : Int) (hn : 10 ^ k ≤ n) (w2 : Int) (hw2 : w2 = if (k : Int) < width then width - k else 0) :
    plen n width = plen (n / 10 ^ k) w2 + k := by
  have h := nDigits_div k n hn
  have hp := nDigits_pos (n / 10 ^ k)
  unfold plen
  split at hw2 <;> omega

theorem plen_rem (r k : Nat) (hr : r < 10 ^ k) (hk : 1 ≤ k) : plen r (k : Int) = k := by
  obtain ⟨j, rfl⟩ : ∃ j, k = j + 1 := ⟨k - 1, by omega⟩
  have := nDigits_of_lt r j hr
  unfold plen
  omega
end Go.Proofs.Qxb6619304aDoor
