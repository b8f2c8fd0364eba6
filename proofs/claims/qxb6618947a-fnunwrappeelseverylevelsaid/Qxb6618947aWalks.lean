import Derived.Test.Qxb6618947aRows
import Derived.WalkKit
import Derived.ProofKit
import Derived.OpenShut
import Derived.ShutString
import Derived.ChangeOld
import Derived.Below
import Derived.Outline
import Derived.WalkSpells
import Derived.WalkLawsBesides
import Derived.LaidEql
namespace Go.Proofs.Qxb6618947a
open Go.ChangeShapes Go.WideShapes Go.ChangeAt Go.RowKit

theorem bytes_yes (a0 a1 : ByteArray) (a2 : Int) (w : World) (h : a0.size + a1.size ≤ 1048576) :
    Calls Try.prog 12 #[.string a0, .string a1, .int .i64 a2] w fun e w' => e = .returned (.bool true) ∧ w' = w := by
  go_enter Try.func12, Try.ntmps12
  go_wp2
  go_ret
  exact ⟨rfl, rfl⟩

theorem bytes_no (a0 a1 : ByteArray) (a2 : Int) (w : World) (h0 : a0.size ≤ maxLen) (h1 : a1.size ≤ maxLen) (h : 1048576 < a0.size + a1.size) :
    Calls Try.prog 12 #[.string a0, .string a1, .int .i64 a2] w fun e w' => e = .returned (.bool false) ∧ w' = w := by
  unfold maxLen at h0 h1
  by_cases c0 : 1048576 < a0.size
  · go_enter Try.func12, Try.ntmps12
    go_wp2
    go_ret
    exact ⟨rfl, rfl⟩
  by_cases c1 : 1048576 < a1.size
  · go_enter Try.func12, Try.ntmps12
    go_wp2
    go_ret
    exact ⟨rfl, rfl⟩
  · go_enter Try.func12, Try.ntmps12
    go_wp2
    go_ret
    exact ⟨rfl, rfl⟩

theorem new_any (w : World) : Calls Try.prog 13 #[] w fun e w' => e = .returned (.pointer (some ⟨w.heap.size, 0, none⟩)) ∧ w' = w.alloc (.cells #[.nilIface] 52) := by
  go_enter Try.func13, Try.ntmps13
  go_wp2
  go_ret
  exact ⟨rfl, rfl⟩

theorem fail_any0 (b : Nat) (c : Addr) (s : ByteArray) (w : World) (hc : w.cell? ⟨b, 0, none⟩ = some .nilIface) (hf : w.frozen? ⟨b, 0, none⟩ = false) (hr : b < w.heap.size) :
    Calls Try.prog 14 #[.pointer (some ⟨b, 0, none⟩), .string s, .pointer (some c)] w fun e w' => e = .returned (.bool true) ∧
      w' = (w.setCell ⟨b, 0, none⟩ (.iface 28 (.pointer (some ⟨w.heap.size, 0, none⟩)))).alloc (.cells #[.string s, .int .i64 0, .iface 28 (.pointer (some c))] 36) := by
  have hne : ¬ b = w.heap.size := by omega
  go_enter Try.func14, Try.ntmps14
  go_wp2
  go_ret
  exact ⟨rfl, rfl⟩

theorem heap_alloc_new (w : World) (o : Obj) : (w.alloc o).heap[w.heap.size]? = some o := by
  show (w.heap.push o)[w.heap.size]? = _
  simp

theorem cell_of_block {w : World} {b : Nat} {cs : Array Value} {t : TypeId} (h : w.heap[b]? = some (.cells cs t)) (i : Nat) : w.cell? ⟨b, i, none⟩ = cs[i]? := by
  simp [World.cell?, h]

theorem frozen_of_block {w : World} {b : Nat} {cs : Array Value} {t : TypeId} (h : w.heap[b]? = some (.cells cs t)) (i : Nat) : w.frozen? ⟨b, i, none⟩ = false := by
  simp [World.frozen?, h]

/-- A new reader: at a block of its own, no error kept. -/
theorem new_facts (w : World) : Calls Try.prog 13 #[] w fun e w' => e = .returned (.pointer (some ⟨w.heap.size, 0, none⟩)) ∧
    w'.heap.size = w.heap.size + 1 ∧ w'.heap[w.heap.size]? = some (.cells #[.nilIface] 52) ∧ Below w.heap.size w w' := by
  refine (new_any w).mono ?_
  rintro e w' ⟨rfl, rfl⟩
  exact ⟨rfl, by simp, heap_alloc_new _ _, (Below.refl _ _).alloc (Nat.le_refl _) _⟩

/-- A failing read on a reader that keeps no error: a new DealError that wraps the cause, and the reader keeps it. -/
theorem fail_facts (b : Nat) (c : Addr) (s : ByteArray) (w : World) (hc : w.heap[b]? = some (.cells #[.nilIface] 52)) :
    Calls Try.prog 14 #[.pointer (some ⟨b, 0, none⟩), .string s, .pointer (some c)] w fun e w' => e = .returned (.bool true) ∧
      w'.heap.size = w.heap.size + 1 ∧ w'.heap[w.heap.size]? = some (.cells #[.string s, .int .i64 0, .iface 28 (.pointer (some c))] 36) ∧
      w'.cell? ⟨b, 0, none⟩ = some (.iface 28 (.pointer (some ⟨w.heap.size, 0, none⟩))) ∧ Below b w w' := by
  have hb : b < w.heap.size := by
    rcases Nat.lt_or_ge b w.heap.size with h | h
    · exact h
    · rw [Array.getElem?_eq_none h] at hc; cases hc
  have hc0 := cell_of_block hc 0
  refine (fail_any0 b c s w (by rw [hc0]; rfl) (frozen_of_block hc 0) hb).mono ?_
  rintro e w' ⟨rfl, rfl⟩
  have hz : (w.setCell ⟨b, 0, none⟩ (.iface 28 (.pointer (some ⟨w.heap.size, 0, none⟩)))).heap.size = w.heap.size := by simp [World.setCell]
  refine ⟨rfl, by simp, ?_, ?_, ?_⟩
  · have := heap_alloc_new (w.setCell ⟨b, 0, none⟩ (.iface 28 (.pointer (some ⟨w.heap.size, 0, none⟩)))) (.cells #[.string s, .int .i64 0, .iface 28 (.pointer (some c))] 36)
    rwa [hz] at this
  · rw [World.cell?_alloc_past _ _ _ (by rw [hz]; exact hb)]
    exact World.cell?_setCell_same w _ _ hc0
  · exact Below.alloc ((Below.refl b w).setCell (p := ⟨b, 0, none⟩) (Nat.le_refl _) _) (by rw [hz]; omega) _

theorem run_assert (a : Addr) (w : World) : (Instr.typeAssert (.iface 28 (.pointer (some a))) 34 28 true).run Try.prog w = .ok (.tuple #[.pointer (some a), .bool true]) w := by kernel_rfl

theorem reader_err (b : Nat) (a : Addr) (w : World) (hc : w.cell? ⟨b, 0, none⟩ = some (.iface 28 (.pointer (some a)))) :
    Calls Try.prog 15 #[.pointer (some ⟨b, 0, none⟩)] w fun e w' => e = .returned (.tuple #[.pointer (some a), .bool true]) ∧ w' = w := by
  have hta := run_assert
  go_enter Try.func15, Try.ntmps15
  go_wp2
  go_ret2
  exact ⟨rfl, rfl⟩

theorem unwrap_deal (b : Nat) (a : Addr) (w : World) (hc : w.cell? ⟨b, 2, none⟩ = some (.iface 28 (.pointer (some a)))) :
    Calls Try.prog 11 #[.pointer (some ⟨b, 0, none⟩)] w fun e w' => e = .returned (.tuple #[.pointer (some a), .bool true]) ∧ w' = w := by
  have hta := run_assert
  go_enter Try.func11, Try.ntmps11
  go_wp2
  go_ret2
  exact ⟨rfl, rfl⟩

theorem unwrap_nil (b : Nat) (w : World) (hc : w.cell? ⟨b, 2, none⟩ = some .nilIface) :
    Calls Try.prog 16 #[.pointer (some ⟨b, 0, none⟩)] w fun e w' => e = .returned (.bool true) ∧ w' = w := by
  go_enter Try.func16, Try.ntmps16
  go_wp2
  go_ret
  exact ⟨rfl, rfl⟩

theorem info36 : ∃ j, Try.prog.info? 36 = some j ∧ j.size ≠ 0 := by
  have h : (Try.prog.info? 36).map (fun j => decide (j.size = 0)) = some false := by kernel_rfl
  obtain ⟨j, hj, hz⟩ := Option.map_eq_some_iff.1 h
  exact ⟨j, hj, by simpa using hz⟩

theorem eqIn_same (d : Nat) (a : Addr) (w : World) : (Op.equalIn (d + 1) 28 (.pointer (some a)) (.pointer (some a))).run Try.prog w = .ok true w := by
  obtain ⟨j, hj, _⟩ := info36
  simp [Op.equalIn, run_underlying Try.underlying28, typeInfo, sizeOf, hj, run_sameAddr_same]

theorem eqIn_other (d : Nat) {a b : Addr} (w : World) {ca cb : Array Value} {ta tb : TypeId} (hne : a ≠ b) (ha : w.heap[a.block]? = some (.cells ca ta)) (hb : w.heap[b.block]? = some (.cells cb tb)) :
    (Op.equalIn (d + 1) 28 (.pointer (some a)) (.pointer (some b))).run Try.prog w = .ok false w := by
  obtain ⟨j, hj, hz⟩ := info36
  simp [Op.equalIn, run_underlying Try.underlying28, typeInfo, sizeOf, hj, run_sameAddr_other w hne ha hb, hz]

/-- Two pointers to DealErrors, the same one. -/
theorem run_neq_same (a : Addr) (w : World) : (binOp .neq 28 (.pointer (some a)) (.pointer (some a))).run Try.prog w = .ok (.bool false) w := by
  simp only [binOp]
  simp [Op.equal, Op.maxDepth, eqIn_same 9999 a w]

/-- Two pointers to DealErrors, in different blocks. -/
theorem run_eql_other {a b : Addr} (w : World) {ca cb : Array Value} {ta tb : TypeId} (hne : a ≠ b) (ha : w.heap[a.block]? = some (.cells ca ta)) (hb : w.heap[b.block]? = some (.cells cb tb)) :
    (binOp .eql 28 (.pointer (some a)) (.pointer (some b))).run Try.prog w = .ok (.bool false) w := by
  simp only [binOp]
  simp [Op.equal, Op.maxDepth, eqIn_other 9999 w hne ha hb]

end Go.Proofs.Qxb6618947a
