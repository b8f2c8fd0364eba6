/-
  The plain mathematics of the quoted literal. No Go in this text.
-/
import Derived.Lib.BufferWrite
namespace Go.Proofs.Qxb6621649a
open Go Go.Lib

/-- A lower-case hex digit. -/
def hexd (k : Nat) : UInt8 := UInt8.ofNat (if k < 10 then 48 + k else 87 + k)

/-- How one byte is spelt. -/
def esc (c : UInt8) : List UInt8 :=
  if c = 34 ∨ c = 92 then [92, c]
  else if c = 10 then [92, 110]
  else if c = 9 then [92, 116]
  else if c.toNat < 32 ∨ 126 < c.toNat then [92, 120, hexd (c.toNat / 16), hexd (c.toNat % 16)]
  else [c]

/-- The opening quote and the spelling. -/
def qpre (l : List UInt8) : List UInt8 := 34 :: l.flatMap esc
/-- The whole literal. -/
def quote (l : List UInt8) : List UInt8 := qpre l ++ [34]

theorem qpre_snoc (l : List UInt8) (c : UInt8) : qpre (l ++ [c]) = qpre l ++ esc c := by simp [qpre]

theorem of_toNat {c : UInt8} {n : Nat} (h : c.toNat = n) (hn : n < 256) : c = UInt8.ofNat n := by
  apply UInt8.toNat.inj; rw [h, UInt8.toNat_ofNat']; omega

theorem esc_quote {c : UInt8} (h : c.toNat = 34) : esc c = [92, 34] := by
  obtain rfl : c = 34 := of_toNat (n := 34) h (by decide); rfl
theorem esc_back {c : UInt8} (h : c.toNat = 92) : esc c = [92, 92] := by
  obtain rfl : c = 92 := of_toNat (n := 92) h (by decide); rfl
theorem esc_nl {c : UInt8} (h : c.toNat = 10) : esc c = [92, 110] := by
  obtain rfl : c = 10 := of_toNat (n := 10) h (by decide); rfl
theorem esc_tab {c : UInt8} (h : c.toNat = 9) : esc c = [92, 116] := by
  obtain rfl : c = 9 := of_toNat (n := 9) h (by decide); rfl
theorem ne_of_toNat {c : UInt8} {d : UInt8} (h : c.toNat ≠ d.toNat) : c ≠ d := fun e => h (by rw [e])
theorem esc_hex {c : UInt8} (h9 : c.toNat ≠ 9) (h10 : c.toNat ≠ 10) (h : c.toNat < 32 ∨ 126 < c.toNat) : esc c = [92, 120, hexd (c.toNat / 16), hexd (c.toNat % 16)] := by
  unfold esc
  rw [if_neg, if_neg (ne_of_toNat h10), if_neg (ne_of_toNat h9), if_pos h]
  rintro (e | e)
  · subst e; revert h; decide
  · subst e; revert h; decide
theorem esc_plain {c : UInt8} (h34 : c.toNat ≠ 34) (h92 : c.toNat ≠ 92) (h1 : 32 ≤ c.toNat) (h2 : c.toNat ≤ 126) : esc c = [c] := by
  unfold esc
  rw [if_neg, if_neg, if_neg, if_neg (by omega)]
  · intro e; subst e; revert h1; decide
  · intro e; subst e; revert h1; decide
  · rintro (e | e)
    · exact h34 (by rw [e]; rfl)
    · exact h92 (by rw [e]; rfl)

theorem hexd_toNat (k : Nat) (h : k < 16) : (hexd k).toNat = if k < 10 then 48 + k else 87 + k := by
  unfold hexd
  rw [UInt8.toNat_ofNat']
  split <;> omega

/-- Every byte of a spelling is printable ASCII; it has one to four of them. -/
theorem esc_range (c : UInt8) : (∀ b ∈ esc c, 32 ≤ b.toNat ∧ b.toNat ≤ 126) ∧ 1 ≤ (esc c).length ∧ (esc c).length ≤ 4 := by
  have hlt := c.toNat_lt
  by_cases h1 : c.toNat = 34
  · rw [esc_quote h1]; decide
  by_cases h2 : c.toNat = 92
  · rw [esc_back h2]; decide
  by_cases h3 : c.toNat = 10
  · rw [esc_nl h3]; decide
  by_cases h4 : c.toNat = 9
  · rw [esc_tab h4]; decide
  by_cases h5 : c.toNat < 32 ∨ 126 < c.toNat
  · rw [esc_hex h4 h3 h5]
    have d1 := hexd_toNat (c.toNat / 16) (by omega)
    have d2 := hexd_toNat (c.toNat % 16) (by omega)
    refine ⟨?_, by simp, by simp⟩
    intro b hb
    simp only [List.mem_cons, List.not_mem_nil, or_false] at hb
    rcases hb with rfl | rfl | rfl | rfl
    · decide
    · decide
    · split at d1 <;> omega
    · split at d2 <;> omega
  · rw [esc_plain h1 h2 (by omega) (by omega)]
    refine ⟨?_, by simp, by simp⟩
    intro b hb
    simp only [List.mem_cons, List.not_mem_nil, or_false] at hb
    subst hb
    omega

theorem flat_len (l : List UInt8) : l.length ≤ (l.flatMap esc).length ∧ (l.flatMap esc).length ≤ 4 * l.length := by
  induction l with
  | nil => simp
  | cons c l ih =>
    have := (esc_range c).2
    simp only [List.flatMap_cons, List.length_append, List.length_cons]
    omega

theorem quote_len (l : List UInt8) : l.length + 2 ≤ (quote l).length ∧ (quote l).length ≤ 4 * l.length + 2 := by
  have := flat_len l
  simp only [quote, qpre, List.length_append, List.length_cons, List.length_nil]
  omega

theorem quote_range (l : List UInt8) : ∀ b ∈ quote l, 32 ≤ b.toNat ∧ b.toNat ≤ 126 := by
  intro b hb
  simp only [quote, qpre, List.mem_append, List.mem_cons, List.not_mem_nil, or_false, List.mem_flatMap] at hb
  rcases hb with (rfl | ⟨c, _, hc⟩) | rfl
  · decide
  · exact (esc_range c).1 b hc
  · decide

/-- A literal cut at any place. -/
theorem quote_cut (l r : List UInt8) : quote (l ++ r) = (quote l).dropLast ++ (quote r).tail := by
  have h1 : (quote l).dropLast = qpre l := by unfold quote; exact List.dropLast_concat
  have h2 : (quote r).tail = r.flatMap esc ++ [34] := rfl
  rw [h1, h2]
  simp [quote, qpre]
end Go.Proofs.Qxb6621649a
