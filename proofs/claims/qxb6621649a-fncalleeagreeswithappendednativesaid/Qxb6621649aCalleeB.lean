/-
  FnCalleeAgreesWithAppendedNative: what memory holds on the way.
-/
import Derived.Test.Qxb6621649aCalleeA
namespace Go.Proofs.Qxb6621649a.callee
open Go.ChangeShapes Go.WideShapes Go.ChangeAt Go.RowKit

def host0 : Array Value := #[.string ByteArray.empty, .slice none 0 0, .int .u8 0]

theorem info38 : ∃ i, Try.prog.info? 38 = some i ∧ i.bytes = 48 ∧ i.size = 3 ∧ i.zero = some (.agg host0) := by
  have h : (Try.prog.info? 38).map (fun i => (i.bytes, i.size, i.zero)) = some (48, 3, some (.agg host0)) := by kernel_rfl
  obtain ⟨j, hj, hz⟩ := Option.map_eq_some_iff.1 h
  simp only [Prod.mk.injEq] at hz
  exact ⟨j, hj, hz.1, hz.2.1, hz.2.2⟩

theorem run_hosts (n : Nat) (hn : n ≤ 65536) (w : World) : (Instr.makeSlice 32 (.int .i64 ((n : Int) + 1)) (.int .i64 ((n : Int) + 1))).run Try.prog w =
    .ok (.slice (some ⟨w.heap.size, 0, none⟩) (n + 1) (n + 1)) (w.alloc (.cells (madeCells host0 ((n + 1) * 3)) 38)) := by
  obtain ⟨i, hi, hb, hs, hz⟩ := info38
  have h := run_make (P := Try.prog) w 32 38 i _ Try.underlying32 hi hz .i64 .i64 ((n : Int) + 1) ((n : Int) + 1) (by omega) (by omega) (by rw [hb]; omega) (by omega)
  have e : ((n : Int) + 1).toNat = n + 1 := by omega
  simpa [hs, Value.cells, e] using h

theorem made_at (n j : Nat) (hj : j < n) : (madeCells host0 (n * 3))[j * 3]? = some (.string ByteArray.empty) ∧ (madeCells host0 (n * 3))[j * 3 + 1]? = some (.slice none 0 0) ∧ (madeCells host0 (n * 3))[j * 3 + 2]? = some (.int .u8 0) := by
  have hz : host0.size = 3 := rfl
  have at_ : ∀ r, r < 3 → (madeCells host0 (n * 3))[j * 3 + r]? = some host0[r]! := by
    intro r hr
    have e : (j * 3 + r) % 3 = r := by omega
    have hlt : j * 3 + r < n * 3 := by omega
    simp [madeCells, hz, e, hlt]
  exact ⟨at_ 0 (by omega), at_ 1 (by omega), at_ 2 (by omega)⟩

/-- The row of hosts, its first k names set. -/
structure RowInv (w : World) (n : Nat) (nm : Nat → ByteArray) (k : Nat) (wr : World) : Prop where
  size : wr.heap.size = w.heap.size + 1
  below : Below w.heap.size w wr
  row : ∃ cs : Array Value, wr.heap[w.heap.size]? = some (.cells cs 38) ∧ cs.size = (n + 1) * 3 ∧
    ∀ j, j < n + 1 → (∃ s, cs[j * 3]? = some (.string s) ∧ (j < k → s = nm j)) ∧ cs[j * 3 + 1]? = some (.slice none 0 0) ∧ cs[j * 3 + 2]? = some (.int .u8 0)

theorem RowInv.start (w : World) (n : Nat) (nm : Nat → ByteArray) : RowInv w n nm 0 (w.alloc (.cells (madeCells host0 ((n + 1) * 3)) 38)) := by
  refine ⟨by simp, (Below.refl _ _).alloc (Nat.le_refl _) _, madeCells host0 ((n + 1) * 3), ?_, size_madeCells _ _, fun j hj => ?_⟩
  · show (w.heap.push _)[w.heap.size]? = _
    simp
  · obtain ⟨h0, h1, h2⟩ := made_at (n + 1) j hj
    exact ⟨⟨_, h0, fun h => by omega⟩, h1, h2⟩

theorem RowInv.step {w : World} {n : Nat} {nm : Nat → ByteArray} {k : Nat} {wr : World} (h : RowInv w n nm k wr) (hk : k < n + 1) : RowInv w n nm (k + 1) (wr.setCell ⟨w.heap.size, k * 3, none⟩ (.string (nm k))) := by
  obtain ⟨cs, hcs, hsz, hel⟩ := h.row
  refine ⟨by simp [World.setCell]; exact h.size, h.below.setCell (Nat.le_refl _) _, cs.setIfInBounds (k * 3) (.string (nm k)), heap_setCell_same hcs _ _, by simpa using hsz, fun j hj => ?_⟩
  obtain ⟨⟨s, h0, hs⟩, h1, h2⟩ := hel j hj
  refine ⟨?_, ?_, ?_⟩
  · by_cases e : j = k
    · subst e
      refine ⟨nm j, ?_, fun _ => rfl⟩
      rw [Array.getElem?_setIfInBounds, if_pos rfl, if_pos (by omega)]
    · refine ⟨s, ?_, fun hlt => hs (by omega)⟩
      rw [Array.getElem?_setIfInBounds, if_neg (by omega)]; exact h0
  · rw [Array.getElem?_setIfInBounds, if_neg (by omega)]; exact h1
  · rw [Array.getElem?_setIfInBounds, if_neg (by omega)]; exact h2

theorem RowInv.cell {w : World} {n : Nat} {nm : Nat → ByteArray} {k : Nat} {wr : World} (h : RowInv w n nm k wr) (j : Nat) (hj : j < n + 1) : ∃ s, wr.cell? ⟨w.heap.size, j * 3, none⟩ = some (.string s) := by
  obtain ⟨cs, hcs, hsz, hel⟩ := h.row
  obtain ⟨⟨s, h0, -⟩, -, -⟩ := hel j hj
  exact ⟨s, by rw [cell_of_block hcs]; exact h0⟩

theorem RowInv.frozen {w : World} {n : Nat} {nm : Nat → ByteArray} {k : Nat} {wr : World} (h : RowInv w n nm k wr) (i : Nat) : wr.frozen? ⟨w.heap.size, i, none⟩ = false := by
  obtain ⟨cs, hcs, -, -⟩ := h.row
  exact frozen_of_block hcs i

theorem RowInv.hosts {w : World} {n : Nat} {nm : Nat → ByteArray} {wr wx : World} (h : RowInv w n nm (n + 1) wr) (hx : wx.heap[w.heap.size]? = wr.heap[w.heap.size]?) (m : Nat) (hm : m ≤ n + 1) : Hosts wx w.heap.size m nm := by
  obtain ⟨cs, hcs, hsz, hel⟩ := h.row
  intro j hj
  obtain ⟨⟨s, h0, hs⟩, h1, h2⟩ := hel j (by omega)
  rw [← hx] at hcs
  rw [cell_of_block hcs, cell_of_block hcs, cell_of_block hcs, ← hs (by omega)]
  exact ⟨h0, h1, h2⟩

theorem stood41 : Try.prog.stoodInHeld 41 = false := by kernel_rfl
theorem eq_instr (d : Nat) (x y z : Int) (w : World) : (Op.equalIn (d + 2) 41 (.agg #[.int .u8 x, .int .i64 y, .int .i64 z]) (.agg #[.int .u8 x, .int .i64 y, .int .i64 z])).run Try.prog w = .ok true w := by
  rw [run_equalIn_struct w (d + 1) 41 _ _ (by simp [Program.fieldsOf, Try.underlying41]) stood41]
  simp [Program.fieldsOf, Try.underlying41, Op.eqFields, go_sem, Op.equalIn]
theorem run_eql_instr (x y z : Int) (w : World) : (binOp .eql 41 (.agg #[.int .u8 x, .int .i64 y, .int .i64 z]) (.agg #[.int .u8 x, .int .i64 y, .int .i64 z])).run Try.prog w = .ok (.bool true) w := by
  simp only [binOp]
  simp [Op.equal, Op.maxDepth, eq_instr 9998 x y z w]
theorem run_neq_instr (x y z : Int) (w : World) : (binOp .neq 41 (.agg #[.int .u8 x, .int .i64 y, .int .i64 z]) (.agg #[.int .u8 x, .int .i64 y, .int .i64 z])).run Try.prog w = .ok (.bool false) w := by
  simp only [binOp]
  simp [Op.equal, Op.maxDepth, eq_instr 9998 x y z w]

/-- The first place of name, if any. -/
theorem first_exists (nm : Nat → ByteArray) (name : ByteArray) : ∀ m, ∃ f, IsFirst nm name m f
  | 0 => ⟨none, fun j hj => by omega⟩
  | m + 1 => by
    obtain ⟨f, hf⟩ := first_exists nm name m
    cases f with
    | some k => exact ⟨some k, by obtain ⟨h1, h2, h3⟩ := hf; exact ⟨by omega, h2, h3⟩⟩
    | none =>
      by_cases e : nm m = name
      · exact ⟨some m, by omega, e, hf⟩
      · refine ⟨none, fun j hj => ?_⟩
        by_cases ej : j = m
        · subst ej; exact e
        · exact hf j (by omega)
end Go.Proofs.Qxb6621649a.callee
