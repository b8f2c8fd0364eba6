import Derived.Test.Qxb6618947aPeelA
import Derived.Deep.QuietTactic
import Derived.BigQuiet
namespace Go.Proofs.Qxb6618947a.peels
open Go.ChangeShapes Go.WideShapes Go.ChangeAt Go.RowKit

/-- The block of the k-th level; level 0 is the cause. -/
def lb (N k : Nat) : Nat := if k = 0 then N else N + 1 + 2 * k
theorem lb_zero (N : Nat) : lb N 0 = N := rfl
theorem lb_succ (N k : Nat) : lb N (k + 1) = N + 2 + 2 * k + 1 := by unfold lb; simp; omega
theorem lb_lt (N k : Nat) : lb N k < N + 2 + 2 * k := by unfold lb; split <;> omega
theorem lb_ne (N k : Nat) : lb N k ≠ N + 1 := by unfold lb; split <;> omega

/-- What memory holds when k levels have been laid: the cause, the list of levels, and each level's error. -/
structure Inv (w : World) (cf : ByteArray) (cl : Int) (n : Nat) (ss : Nat → ByteArray) (k : Nat) (wr : World) : Prop where
  size : wr.heap.size = w.heap.size + 2 + 2 * k
  below : Below w.heap.size w wr
  cause : wr.heap[w.heap.size]? = some (.cells #[.string cf, .int .i64 cl, .nilIface] 36)
  level : ∀ j, j < k → wr.heap[lb w.heap.size (j + 1)]? = some (.cells #[.string (ss j), .int .i64 0, .iface 28 (.pointer (some ⟨lb w.heap.size j, 0, none⟩))] 36)
  row : ∃ cs : Array Value, wr.heap[w.heap.size + 1]? = some (.cells cs 28) ∧ cs.size = n ∧ ∀ j, j < k → cs[j]? = some (.pointer (some ⟨lb w.heap.size (j + 1), 0, none⟩))

/-- One more level. -/
theorem Inv.step {w : World} {cf : ByteArray} {cl : Int} {n : Nat} {ss : Nat → ByteArray} {k : Nat} {wr w1 w2 : World} (h : Inv w cf cl n ss k wr) (hk : k < n)
    (z1 : w1.heap.size = wr.heap.size + 1) (b1 : Below wr.heap.size wr w1)
    (z2 : w2.heap.size = w1.heap.size + 1) (k2 : w2.heap[w1.heap.size]? = some (.cells #[.string (ss k), .int .i64 0, .iface 28 (.pointer (some ⟨lb w.heap.size k, 0, none⟩))] 36)) (b2 : Below wr.heap.size w1 w2) :
    Inv w cf cl n ss (k + 1) (w2.setCell ⟨w.heap.size + 1, k, none⟩ (.pointer (some ⟨w.heap.size + 2 + 2 * k + 1, 0, none⟩))) := by
  have hs := h.size
  have keep : ∀ i, i < wr.heap.size → w2.heap[i]? = wr.heap[i]? := fun i hi => (b2.block i hi).trans (b1.block i hi)
  have other : ∀ i, i ≠ w.heap.size + 1 → (w2.setCell ⟨w.heap.size + 1, k, none⟩ (.pointer (some ⟨w.heap.size + 2 + 2 * k + 1, 0, none⟩))).heap[i]? = w2.heap[i]? :=
    fun i hi => Below.heap_setCell _ _ _ _ hi
  refine ⟨by simp [World.setCell]; omega, ?_, ?_, ?_, ?_⟩
  · exact ((h.below.trans (b1.mono (by omega))).trans (b2.mono (by omega))).setCell (by simp) _
  · rw [other _ (by omega), keep _ (by omega)]; exact h.cause
  · intro j hj
    rw [other _ (lb_ne _ _)]
    by_cases e : j = k
    · subst e
      rw [lb_succ]
      have : w.heap.size + 2 + 2 * j + 1 = w1.heap.size := by omega
      rw [this]; exact k2
    · rw [keep _ (by have := lb_lt w.heap.size (j + 1); omega)]
      exact h.level j (by omega)
  · obtain ⟨cs, hcs, hsz, hel⟩ := h.row
    have hcs2 : w2.heap[w.heap.size + 1]? = some (.cells cs 28) := by rw [keep _ (by omega)]; exact hcs
    refine ⟨cs.setIfInBounds k (.pointer (some ⟨w.heap.size + 2 + 2 * k + 1, 0, none⟩)), ?_, by simpa using hsz, ?_⟩
    · simp [World.setCell, Array.getElem?_modify, hcs2]
    · intro j hj
      rw [Array.getElem?_setIfInBounds]
      by_cases e : k = j
      · subst e
        rw [if_pos rfl, if_pos (by omega), lb_succ]
      · rw [if_neg e]; exact hel j (by omega)

theorem Inv.drewN {w : World} {cf : ByteArray} {cl : Int} {n : Nat} {ss : Nat → ByteArray} {k : Nat} {wr : World} (h : Inv w cf cl n ss k wr) (q : Nat) : Inv w cf cl n ss k (wr.drewN q) :=
  ⟨h.size, below_drewN h.below q, h.cause, h.level, h.row⟩
end Go.Proofs.Qxb6618947a.peels
