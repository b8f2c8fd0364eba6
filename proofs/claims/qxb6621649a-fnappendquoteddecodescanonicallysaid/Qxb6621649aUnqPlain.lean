/-
  Where each byte's spelling lies in the literal. No Go in this text.
-/
import Derived.Test.Qxb6621649aQuotePlain
namespace Go.Proofs.Qxb6621649a
open Go Go.Lib

/-- Where the spelling of the byte k begins. -/
def pos (S : List UInt8) (k : Nat) : Nat := ((S.take k).flatMap esc).length

theorem pos_zero (S : List UInt8) : pos S 0 = 0 := by simp [pos]
theorem pos_all (S : List UInt8) : pos S S.length = (S.flatMap esc).length := by simp [pos]
theorem pos_succ (S : List UInt8) (k : Nat) (h : k < S.length) : pos S (k + 1) = pos S k + (esc S[k]).length := by
  unfold pos
  rw [List.take_succ_eq_append_getElem h, List.flatMap_append, List.length_append]
  simp

theorem pos_le (S : List UInt8) (k : Nat) : pos S k ≤ (S.flatMap esc).length := by
  have h : S.flatMap esc = (S.take k).flatMap esc ++ (S.drop k).flatMap esc := by rw [← List.flatMap_append, List.take_append_drop]
  rw [h, List.length_append]
  exact Nat.le_add_right _ _

theorem esc_at (S : List UInt8) (k : Nat) (h : k < S.length) (t : Nat) (ht : t < (esc S[k]).length) : (S.flatMap esc)[pos S k + t]? = some (esc S[k])[t] := by
  have h1 : S.flatMap esc = (S.take k).flatMap esc ++ (S.drop k).flatMap esc := by rw [← List.flatMap_append, List.take_append_drop]
  rw [h1, List.getElem?_append_right (by unfold pos; exact Nat.le_add_right _ _), List.drop_eq_getElem_cons h, List.flatMap_cons]
  have h2 : pos S k + t - ((S.take k).flatMap esc).length = t := by unfold pos; omega
  rw [h2, List.getElem?_append_left ht, List.getElem?_eq_getElem ht]

theorem or16 : ∀ a b : Fin 16, (a.val * 16 ||| b.val) = a.val * 16 + b.val := by decide
end Go.Proofs.Qxb6621649a
