/-
  bytecode.LookupNative and asm.callee.
-/
import Derived.Test.Qxb6621649aRows
import Derived.WalkKit
import Derived.ProofKit
import Derived.OpenShut
import Derived.ShutString
import Derived.ChangeOld
import Derived.Below
import Derived.Outline
import Derived.WalkSpells
import Derived.WalkLawsBesides
import Derived.Laws.StructEq
namespace Go.Proofs.Qxb6621649a.callee
open Go.ChangeShapes Go.WideShapes Go.ChangeAt Go.RowKit

theorem str_ne {a b : ByteArray} (h : a ≠ b) : (a.toList == b.toList) = false := by
  rw [beq_eq_false_iff_ne, ByteArray.toList_eq, ByteArray.toList_eq]
  exact fun e => h (ByteArray.ext (Array.toList_inj.mp e))

/-- A row of hosts, by their cells. -/
def Hosts (w : World) (g m : Nat) (nm : Nat → ByteArray) : Prop :=
  ∀ j, j < m → w.cell? ⟨g, j * 3, none⟩ = some (.string (nm j)) ∧ w.cell? ⟨g, j * 3 + 1, none⟩ = some (.slice none 0 0) ∧ w.cell? ⟨g, j * 3 + 2, none⟩ = some (.int .u8 0)

/-- f is the first place of name among the first m, or none. -/
def IsFirst (nm : Nat → ByteArray) (name : ByteArray) (m : Nat) : Option Nat → Prop
  | some k => k < m ∧ nm k = name ∧ ∀ j, j < k → nm j ≠ name
  | none => ∀ j, j < m → nm j ≠ name

def Found (w : World) (f : Option Nat) (e : Ending) (w' : World) : Prop :=
  e = .returned (.tuple #[.int .i64 ((f.getD 0 : Nat) : Int), .bool f.isSome]) ∧ Below w.heap.size w w'

set_option maxHeartbeats 1600000 in
set_option maxRecDepth 100000 in
theorem lookup_any (g m cap : Nat) (nm : Nat → ByteArray) (name : ByteArray) (f : Option Nat) (w : World) (hm : m ≤ 1048576) (hg : g < w.heap.size) (hn : Hosts w g m nm) (hf : IsFirst nm name m f) :
    Calls Try.prog 17 #[.slice (some ⟨g, 0, none⟩) m cap, .string name] w fun e w' => Found w f e w' := by
  have HN : Hid (Hosts w g m nm) := hn
  have HF : Hid (IsFirst nm name m f) := hf
  clear hn hf
  go_enter Try.func17, Try.ntmps17
  go_wp2_with fail
  go_loopw [10] (fun i wr => ∃ k : Nat, k ≤ m ∧ i = .int .i64 k ∧ Below w.heap.size w wr ∧ ∀ j, j < k → nm j ≠ name) (fun i _ => m - (intOf i).toNat)
  case atStart => exact ⟨0, Nat.zero_le _, rfl, Below.refl _ _, fun j hj => by omega⟩
  case round =>
    obtain ⟨k, hk, rfl, hb, hno⟩ := hrel
    have HB : Hid (Below w.heap.size w wr) := hb
    have HO : Hid (∀ j, j < k → nm j ≠ name) := hno
    clear hb hno
    by_cases hlt : k < m
    · obtain ⟨c0, c1, c2⟩ := HN.out k hlt
      rw [← HB.out.cell (p := ⟨g, k * 3, none⟩) hg] at c0
      rw [← HB.out.cell (p := ⟨g, k * 3 + 1, none⟩) hg] at c1
      rw [← HB.out.cell (p := ⟨g, k * 3 + 2, none⟩) hg] at c2
      by_cases he : nm k = name
      · have HV : Hid (f = some k) := by
          have hf := HF.out
          cases f with
          | none => exact absurd he (hf k hlt)
          | some k' =>
            obtain ⟨h1, h2, h3⟩ := hf
            rcases Nat.lt_trichotomy k k' with h | h | h
            · exact absurd he (h3 k h)
            · exact congrArg some h.symm
            · exact absurd h2 (HO.out k' h)
        go_wp2_with fail
        go_ret2
        exact ⟨by rw [HV.out]; rfl, HB.out.alloc HB.out.size _⟩
      · have hne := str_ne he
        have HE : Hid (∀ j, j < k + 1 → nm j ≠ name) := by
          intro j hj
          by_cases e : j = k
          · subst e; exact he
          · exact HO.out j (by omega)
        go_wp2_with fail
        exact ⟨⟨k + 1, by omega, by go_num, HB.out.alloc HB.out.size _, HE.out⟩, by simp [intOf]; omega⟩
    · have HV : Hid (f = none) := by
        have hf := HF.out
        cases f with
        | none => rfl
        | some k' =>
          obtain ⟨h1, h2, h3⟩ := hf
          exact absurd h2 (HO.out k' (by omega))
      go_wp2_with fail
      go_ret2
      exact ⟨by rw [HV.out]; rfl, HB.out⟩

/-- A look-up that answers so in whatever world is as w was below w's size. -/
def Looks (w : World) (mv : Value) (name : ByteArray) (pv : Int) (inP : Bool) : Prop :=
  ∀ wx, Below w.heap.size w wx → (Instr.lookup 30 mv (.string name) true).run Try.prog wx = .ok (.tuple #[.int .i64 pv, .bool inP]) wx

/-- What callee does: the answer; of old blocks only the instruction's own may have turned. -/
structure Did (w : World) (b : Nat) (r : Int) (ok : Bool) (op' : Int) (arg line : Int) (e : Ending) (w' : World) : Prop where
  ans : e = .returned (.tuple #[.int .i64 r, .bool ok])
  grown : w.grownBy w' (some b)
  cells : w'.heap[b]? = some (.cells #[.int .u8 op', .int .i64 arg, .int .i64 line] 41)

theorem cell_of_block {w : World} {b : Nat} {cs : Array Value} {t : TypeId} (h : w.heap[b]? = some (.cells cs t)) (i : Nat) : w.cell? ⟨b, i, none⟩ = cs[i]? := by
  simp [World.cell?, h]
theorem frozen_of_block {w : World} {b : Nat} {cs : Array Value} {t : TypeId} (h : w.heap[b]? = some (.cells cs t)) (i : Nat) : w.frozen? ⟨b, i, none⟩ = false := by
  simp [World.frozen?, h]
theorem heap_setCell_same {w : World} {b : Nat} {cs : Array Value} {t : TypeId} (h : w.heap[b]? = some (.cells cs t)) (i : Nat) (v : Value) : (w.setCell ⟨b, i, none⟩ v).heap[b]? = some (.cells (cs.setIfInBounds i v) t) := by
  simp [World.setCell, Array.getElem?_modify, h]
theorem lt_of_block {w : World} {b : Nat} {o : Obj} (h : w.heap[b]? = some o) : b < w.heap.size := (Array.getElem?_eq_some_iff.1 h).1
theorem grown_of_below {w w' : World} {B : Nat} (h : Below B w w') (hB : w.heap.size ≤ B) (row : Option Nat) : w.grownBy w' row := ⟨h.os, h.tape, h.output, h.size, fun k hk _ => h.block k (by omega)⟩

set_option maxHeartbeats 1600000 in
set_option maxRecDepth 100000 in
theorem callee_in (b : Nat) (op arg line : Int) (name : ByteArray) (mv nv : Value) (pv : Int) (w : World) (hb : w.heap[b]? = some (.cells #[.int .u8 op, .int .i64 arg, .int .i64 line] 41)) (hl : Looks w mv name pv true) :
    Calls Try.prog 13 #[.pointer (some ⟨b, 0, none⟩), .string name, mv, nv] w fun e w' => Did w b pv true op arg line e w' := by
  have hlk := hl w (Below.refl _ _)
  have HB : Hid (w.heap[b]? = some (.cells #[.int .u8 op, .int .i64 arg, .int .i64 line] 41)) := hb
  clear hb hl
  go_enter Try.func13, Try.ntmps13
  go_wp2
  go_ret2
  exact ⟨rfl, grown_of_below (Below.refl _ _) (Nat.le_refl _) _, HB.out⟩

set_option maxHeartbeats 1600000 in
set_option maxRecDepth 100000 in
theorem callee_out (b : Nat) (op arg line : Int) (name : ByteArray) (mv : Value) (pv : Int) (g m cap : Nat) (nm : Nat → ByteArray) (f : Option Nat) (w : World) (hb : w.heap[b]? = some (.cells #[.int .u8 op, .int .i64 arg, .int .i64 line] 41))
    (hl : Looks w mv name pv false) (hm : m ≤ 1048576) (hg : g < w.heap.size) (hn : Hosts w g m nm) (hf : IsFirst nm name m f) :
    Calls Try.prog 13 #[.pointer (some ⟨b, 0, none⟩), .string name, mv, .slice (some ⟨g, 0, none⟩) m cap] w fun e w' => Did w b ((f.getD 0 : Nat) : Int) f.isSome (if f.isSome then 43 else op) arg line e w' := by
  have hlk := hl w (Below.refl _ _)
  have HB : Hid (w.heap[b]? = some (.cells #[.int .u8 op, .int .i64 arg, .int .i64 line] 41)) := hb
  have HL : Hid (Calls Try.prog 17 #[.slice (some ⟨g, 0, none⟩) m cap, .string name] w fun e w' => Found w f e w') := lookup_any g m cap nm name f w hm hg hn hf
  clear hb hl hn hf hm
  have hlt := lt_of_block HB.out
  cases f with
  | none =>
    go_enter Try.func13, Try.ntmps13
    go_wp2_with (first | (go_at_call 16; go_in) | (go_at_call 17; refine HL.out.mono ?_; rintro e w1 ⟨rfl, b1⟩))
    go_ret2
    exact ⟨rfl, grown_of_below b1 (Nat.le_refl _) _, by rw [b1.block _ hlt]; exact HB.out⟩
  | some k =>
    go_enter Try.func13, Try.ntmps13
    go_wp2_with (first | (go_at_call 16; go_in) | (go_at_call 17; refine HL.out.mono ?_; rintro e w1 ⟨rfl, b1⟩; have hcell := cell_of_block (show w1.heap[b]? = some (.cells #[.int .u8 op, .int .i64 arg, .int .i64 line] 41) by rw [b1.block _ hlt]; exact HB.out) 0; have hfz := frozen_of_block (show w1.heap[b]? = some (.cells #[.int .u8 op, .int .i64 arg, .int .i64 line] 41) by rw [b1.block _ hlt]; exact HB.out) 0))
    go_ret2
    have hb1 : w1.heap[b]? = some (.cells #[.int .u8 op, .int .i64 arg, .int .i64 line] 41) := by rw [b1.block _ hlt]; exact HB.out
    refine ⟨rfl, ⟨b1.os, b1.tape, b1.output, by simpa [World.setCell] using b1.size, fun j hj hne => ?_⟩, ?_⟩
    · rw [Below.heap_setCell _ _ _ _ (fun e => hne (by rw [e]))]; exact b1.block j hj
    · rw [heap_setCell_same hb1]; rfl
end Go.Proofs.Qxb6621649a.callee
