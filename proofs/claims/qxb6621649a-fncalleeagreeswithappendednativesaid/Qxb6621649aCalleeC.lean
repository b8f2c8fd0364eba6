/-
  FnCalleeAgreesWithAppendedNative: the walk.
-/
import Derived.Test.Qxb6621649aCalleeB
namespace Go.Proofs.Qxb6621649a.callee
open Go.ChangeShapes Go.WideShapes Go.ChangeAt Go.RowKit

/-- A slice of strings that came in: whenever it has an element, its address is plain and its cells hold the strings. -/
def Names (w : World) (a : Option Addr) (n : Nat) (nm : Nat → ByteArray) : Prop :=
  ∀ i, i < n → ∃ b off, a = some ⟨b, off, none⟩ ∧ b < w.heap.size ∧ (∀ j, j < n → w.cell? ⟨b, off + j, none⟩ = some (.string (nm j))) ∧ ∀ j, j < n → (nm j).size ≤ 140737488355328

set_option maxHeartbeats 4000000 in
set_option maxRecDepth 100000 in
theorem walk_out (op arg line : Int) (name extra : ByteArray) (mv : Value) (a : Option Addr) (n cap c : Nat) (w : World)
    (hnz : name.size ≤ maxLen) (hez : extra.size ≤ maxLen) (hn : n ≤ maxLen) (hlen : ∀ ty, (Builtin.len_ #[30] ty #[mv]).run Try.prog w = .ok (.int .i64 c) w)
    (h : ¬ (name.size ≤ 1048576 ∧ extra.size ≤ 1048576 ∧ n ≤ 65536 ∧ c ≤ 4096 ∧ name.size + extra.size ≤ 1048576)) :
    Calls Try.prog 5 #[.int .u8 op, .int .i64 arg, .int .i64 line, .string name, mv, .slice a n cap, .string extra] w fun e w' => e = .returned (.bool true) ∧ Below w.heap.size w w' := by
  unfold maxLen at hnz hez hn
  by_cases h1 : 1048576 < name.size
  · go_enter Try.func5, Try.ntmps5
    go_wp2
    go_ret
    exact ⟨rfl, Below.refl _ _⟩
  by_cases h2 : 1048576 < extra.size
  · go_enter Try.func5, Try.ntmps5
    go_wp2
    go_ret
    exact ⟨rfl, Below.refl _ _⟩
  by_cases h3 : 65536 < n
  · go_enter Try.func5, Try.ntmps5
    go_wp2
    go_ret
    exact ⟨rfl, Below.refl _ _⟩
  by_cases h4 : 4096 < c
  · go_enter Try.func5, Try.ntmps5
    go_wp2
    go_ret
    exact ⟨rfl, Below.refl _ _⟩
  · have h5 : 1048576 < name.size + extra.size := by omega
    clear h
    go_enter Try.func5, Try.ntmps5
    go_wp2
    go_ret
    exact ⟨rfl, Below.refl _ _⟩
end Go.Proofs.Qxb6621649a.callee
