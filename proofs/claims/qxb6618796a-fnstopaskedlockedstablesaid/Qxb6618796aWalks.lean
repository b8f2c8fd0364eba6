import Derived.Test.Qxb6618796aRows
import Derived.WalkKit
import Derived.ProofKit
import Derived.OpenShut
import Derived.ShutString
import Derived.ChangeOld
import Derived.Below
import Derived.Outline
import Derived.WalkSpells
import Derived.Laws.EntriesVeiled
namespace Go.Proofs.Qxb6618796a.fnStopAskedLockedStable
open Go.ChangeShapes Go.WideShapes Go.ChangeAt Go.RowKit

/-- The cells of a new Group whose stop channel is nil. -/
def grp : Array Value :=
  (([.slice none 0 0, .int .i64 0, .int .i64 0, .int .i64 0, .slice none 0 0, .int .u64 0, .nilIface] : List Value) ++
   (List.replicate 65 ([.int .i32 0, .int .u32 0] : List Value)).flatten ++
   ([.bool false, .slice none 0 0, .int .i64 0, .slice none 0 0, .chan none, .pointer none] : List Value)).toArray
theorem run_zero (w : World) : (zeroValue 58).run Try.prog w = .ok (.agg grp) w := by kernel_rfl
theorem grp_size : grp.size = 143 := by kernel_rfl
theorem grp_at : grp[141]? = some (.chan none) := by kernel_rfl
theorem run_mk (w : World) : (Instr.makeChan 27 (.int .i64 0)).run Try.prog w = .ok (.chan (some w.heap.size)) (w.alloc (.chan 0 #[] false 0 0 false)) := by kernel_rfl

theorem new_any (w : World) : Calls Try.prog 9 #[.chan none] w fun e w' => e = .returned (.pointer (some ⟨w.heap.size, 0, none⟩)) ∧ w' = w.alloc (.cells (grp.setIfInBounds 141 (.chan none)) 58) := by
  have hb := run_zero
  have hs : ¬ grp.size < 142 := by rw [grp_size]; omega
  go_enter Try.func9, Try.ntmps9
  go_wp2
  go_ret
  exact ⟨rfl, rfl⟩

/-- A new group: at a block of its own; its stop channel is nil; nothing that was there has turned. -/
theorem new_facts (w : World) : Calls Try.prog 9 #[.chan none] w fun e w' => e = .returned (.pointer (some ⟨w.heap.size, 0, none⟩)) ∧
    w'.heap.size = w.heap.size + 1 ∧ w'.cell? ⟨w.heap.size, 141, none⟩ = some (.chan none) ∧ w'.frozen? ⟨w.heap.size, 141, none⟩ = false ∧ Below w.heap.size w w' := by
  refine (new_any w).mono ?_
  rintro e w' ⟨rfl, rfl⟩
  refine ⟨rfl, by simp, ?_, ?_, (Below.refl _ _).alloc (Nat.le_refl _) _⟩
  · have h : (grp.setIfInBounds 141 (Value.chan none))[141]? = some (.chan none) := by kernel_rfl
    rw [World.cell?_alloc_new]; exact h
  · exact World.frozen?_alloc_at _ _ _ _ rfl

theorem run_eql_chan (a b : Option Nat) (w : World) : (binOp .eql 27 (.chan a) (.chan b)).run Try.prog w = .ok (.bool (a == b)) w := by
  kernel_rfl
theorem run_neq_chan (a b : Option Nat) (w : World) : (binOp .neq 27 (.chan a) (.chan b)).run Try.prog w = .ok (.bool (!(a == b))) w := by
  kernel_rfl

set_option maxRecDepth 100000 in
theorem stop_nil0 (b : Nat) (w : World) (hb : b < w.heap.size) (hc : w.cell? ⟨b, 141, none⟩ = some (.chan none)) (hf : w.frozen? ⟨b, 141, none⟩ = false) :
    Calls Try.prog 10 #[.pointer (some ⟨b, 0, none⟩)] w fun e w' => e = .returned (.chan (some w.heap.size)) ∧ w' = (w.setCell ⟨b, 141, none⟩ (.chan (some w.heap.size))).alloc (.chan 0 #[] false 0 0 false) := by
  have hmk := run_mk
  have he := run_eql_chan
  have hne : ¬ b = w.heap.size := by omega
  go_enter Try.func10, Try.ntmps10
  go_wp2
  go_ret
  exact ⟨rfl, rfl⟩

/-- The first call makes a channel, at a block of its own, and the group keeps it. -/
theorem stop_nil (b : Nat) (w : World) (hb : b < w.heap.size) (hc : w.cell? ⟨b, 141, none⟩ = some (.chan none)) (hf : w.frozen? ⟨b, 141, none⟩ = false) :
    Calls Try.prog 10 #[.pointer (some ⟨b, 0, none⟩)] w fun e w' => e = .returned (.chan (some w.heap.size)) ∧
      w'.heap.size = w.heap.size + 1 ∧ w'.cell? ⟨b, 141, none⟩ = some (.chan (some w.heap.size)) ∧ Below b w w' := by
  refine (stop_nil0 b w hb hc hf).mono ?_
  rintro e w' ⟨rfl, rfl⟩
  have hz : (w.setCell ⟨b, 141, none⟩ (.chan (some w.heap.size))).heap.size = w.heap.size := by simp [World.setCell]
  refine ⟨rfl, by simp, ?_, ?_⟩
  · rw [World.cell?_alloc_past _ _ _ (by rw [hz]; exact hb)]
    exact World.cell?_setCell_same w _ _ hc
  · exact Below.alloc ((Below.refl b w).setCell (p := ⟨b, 141, none⟩) (Nat.le_refl _) _) (by rw [hz]; omega) _

set_option maxRecDepth 100000 in
theorem stop_some (b c : Nat) (w : World) (hc : w.cell? ⟨b, 141, none⟩ = some (.chan (some c))) :
    Calls Try.prog 10 #[.pointer (some ⟨b, 0, none⟩)] w fun e w' => e = .returned (.chan (some c)) ∧ w' = w := by
  have he := run_eql_chan
  go_enter Try.func10, Try.ntmps10
  go_wp2
  go_ret
  exact ⟨rfl, rfl⟩

set_option maxRecDepth 100000 in
theorem asked_some (b c : Nat) (w : World) (hc : w.cell? ⟨b, 141, none⟩ = some (.chan (some c))) :
    Calls Try.prog 11 #[.pointer (some ⟨b, 0, none⟩)] w fun e w' => e = .returned (.chan (some c)) ∧ w' = w := by
  go_enter Try.func11, Try.ntmps11
  go_wp2
  go_ret
  exact ⟨rfl, rfl⟩
set_option maxRecDepth 100000 in
theorem walk_out (a0 : Int) (w : World) (h : a0 < 0 ∨ 65536 < a0) :
    Calls Try.prog 5 #[.int .i64 a0] w fun e w' => e = .returned (.bool true) ∧ Below w.heap.size w w' := by
  rcases h with h | h
  · go_enter Try.func5, Try.ntmps5
    go_wp2
    go_ret
    exact ⟨rfl, Below.refl _ _⟩
  · have h' : ¬ a0 < 0 := by omega
    go_enter Try.func5, Try.ntmps5
    go_wp2
    go_ret
    exact ⟨rfl, Below.refl _ _⟩

set_option maxRecDepth 100000 in
theorem walk_in (n : Nat) (w : World) (h : n ≤ 65536) :
    Calls Try.prog 5 #[.int .i64 n] w fun e w' => e = .returned (.bool true) ∧ Below w.heap.size w w' := by
  have he := run_eql_chan
  have hn := run_neq_chan
  have d1 : decide ((n : Int) < 0) = false := by simp
  have d2 : decide (65536 < (n : Int)) = false := by simp; omega
  go_enter Try.func5, Try.ntmps5
  go_wp2_with fail
  refine (new_facts _).mono ?_
  rintro e w1 ⟨rfl, z1, c1, f1, b1⟩
  go_wp2_with fail
  refine (stop_nil w.heap.size w1 (by omega) c1 f1).mono ?_
  rintro e w2 ⟨rfl, z2, c2, b2⟩
  rw [z1] at z2 c2 ⊢
  go_wp2_with fail
  go_loop [5] (fun i => ∃ k : Nat, k ≤ n ∧ i = .int .i64 k) (fun i => n - (intOf i).toNat)
  case atStart => exact ⟨0, Nat.zero_le _, rfl⟩
  case round =>
    obtain ⟨k, hk, rfl⟩ := hrel
    by_cases hlt : k < n
    · go_wp2_with (go_at_call 10; refine (stop_some _ _ _ c2).mono ?_; rintro e w' ⟨rfl, rfl⟩)
      go_round
      case rel => exact ⟨k + 1, by omega, by go_num⟩
      case measure => simp [intOf]; omega
    · go_wp2_with fail
      refine (new_facts _).mono ?_
      rintro e w3 ⟨rfl, z3, c3, f3, b3⟩
      rw [z2] at z3 c3 f3 b3 ⊢
      go_wp2_with fail
      refine (stop_nil (w.heap.size + 1 + 1) w3 (by omega) c3 f3).mono ?_
      rintro e w4 ⟨rfl, z4, c4, b4⟩
      rw [z3] at z4 c4 ⊢
      have c5 : w4.cell? ⟨w.heap.size, 141, none⟩ = some (.chan (some (w.heap.size + 1))) := by
        rw [b4.cell (p := ⟨w.heap.size, 141, none⟩) (by simp; omega), b3.cell (p := ⟨w.heap.size, 141, none⟩) (by simp; omega)]; exact c2
      have hB : Below w.heap.size w w4 := ((b1.trans b2).trans (b3.mono (by omega))).trans (b4.mono (by omega))
      have hx : (w.heap.size + 2 == w.heap.size) = false := by simp
      clear c1 f1 b1 c2 b2 c3 f3 b3 c4 b4
      go_wp2_with (go_at_call 11; refine (asked_some _ _ _ c5).mono ?_; rintro e w' ⟨rfl, rfl⟩)
      go_ret
      exact ⟨rfl, hB⟩

theorem walk (a0 : Int) (w : World) : Calls Try.prog 5 #[.int .i64 a0] w fun e w' => e = .returned (.bool true) ∧ Below w.heap.size w w' := by
  by_cases h : a0 < 0 ∨ 65536 < a0
  · exact walk_out a0 w h
  · obtain ⟨n, rfl⟩ := Int.eq_ofNat_of_zero_le (a := a0) (by omega)
    exact walk_in n w (by omega)
end Go.Proofs.Qxb6618796a.fnStopAskedLockedStable
