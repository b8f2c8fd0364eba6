/-
  strconv.AppendInt at base 10, at a number that is not negative, onto a row that the call owns: with the exact frame ('Step').
-/
import Derived.Test.Qxb6619304aDoorOwn
import Derived.Test.Qxb6619304aDoorShelf
import Derived.Lib.Walk
import Derived.Lib.ItoaWalk
import Derived.Lib.ItoaMem
import Derived.Lib.AppendIntMem
import Derived.Lib.BufferKept
import Derived.Lib.OwnKind
import Derived.Lib.Slices
import Derived.Lib.Hide
import Derived.Lib.ItoaLen
import Derived.OwnWalk
import Derived.WalkKit
import Derived.BigCall
import Derived.BigGuard
import Derived.CellFam
import Derived.WalkSpells
import Derived.Outline
namespace Go.Proofs.Qxb6619304aDoor
open Go Go.RowKit Go.Lib Go.Sort

theorem infoByte : (Tryd.prog.info? 5).map (fun i => (i.zero, i.size, i.bytes)) = some (some (.int .u8 0), 1, 1) := by kernel_rfl

/-- What comes back owns what was owned and, behind it, the bytes l. -/
def Put (w : World) (sv : Value) (n : Nat) (xs : List Value) (l : List UInt8) (e : Ending) (w' : World) : Prop :=
  ∃ v', e = .returned v' ∧ w'.ownsRow 0 5 1 v' (n + l.length) (xs ++ byteCells l) ∧ Step w sv w' v'
theorem Put.mk {w : World} {sv : Value} {n : Nat} {xs : List Value} {l : List UInt8} {w' : World} (v v' : Value) (hv : v = v') (h : w'.ownsRow 0 5 1 v' (n + l.length) (xs ++ byteCells l)) (hs : Step w sv w' v') : Put w sv n xs l (.returned v) w' := ⟨v', by rw [hv], h, hs⟩

set_option maxHeartbeats 1600000 in
set_option maxRecDepth 100000 in
theorem au_small (n u : Nat) (hu : u < 100) (sv : Value) (xs : List Value) (w : World) (hown : w.ownsRow 0 5 1 sv n xs) (hlim : n + 20 ≤ 140737488355328) :
    Calls Tryd.prog 15 #[sv, .int .u64 u, .int .i64 10] w fun e w' => Put w sv n xs (decDigits u) e w' := by
  obtain ⟨i0, hi, hz0, hz1, hz2⟩ := info_parts infoByte
  have hlen : (decDigits u).length ≤ 20 := by
    rw [decDigits_length]
    exact nDigits_le20 u (by omega)
  have hsz : (⟨(decDigits u).toArray⟩ : ByteArray).size = (decDigits u).length := by simp [ByteArray.size]
  go_enter Tryd.func15, Tryd.ntmps15
  go_wp2_with (first
    | (go_at_call 16; refine (Tryd.internal_strconv_small u hu _).mono ?_; rintro e w' ⟨rfl, rfl⟩)
    | (at_builtin; refine wpList_append_string _ rfl _ _ 22 9 rfl 5 i0 Tryd.underlying22 Tryd.underlying9 hi hz0 hz1 hz2 _ _ _ rfl hown ⟨(decDigits u).toArray⟩ rfl (by rw [hsz]; omega) ?_))
  intro v' w1 hown' hst
  go_wp2
  go_ret
  refine Put.mk _ v' rfl ?_ hst
  exact hown'

set_option maxHeartbeats 3200000 in
set_option maxRecDepth 100000 in
theorem au_big (n u : Nat) (hu : 100 ≤ u) (hu64 : u < 18446744073709551616) (sv : Value) (xs : List Value) (w : World) (hown : w.ownsRow 0 5 1 sv n xs) (hlim : n + 20 ≤ 140737488355328)
    (htab : TabIs Tryd.prog w powName .u64 pow10Tab) :
    Calls Tryd.prog 15 #[sv, .int .u64 u, .int .i64 10] w fun e w' => Put w sv n xs (decDigits u) e w' := by
  obtain ⟨i0, hi, hz0, hz1, hz2⟩ := info_parts infoByte
  have hnd20 : nDigits u ≤ 20 := nDigits_le20 u hu64
  have hal : Tryd.prog.arrayLen 35 = 24 := by simp [Program.arrayLen, Tryd.underlying35]
  have hsl : ∀ W, (Instr.sliceAt 35 (.pointer (some ⟨w.heap.size, 0, none⟩)) none (some (.int .i64 (nDigits u : Int))) none).run Tryd.prog W = .ok (.slice (some ⟨w.heap.size, 0, none⟩) (nDigits u) 24) W := fun W => by
    rw [run_sliceAt_array_h W 35 ⟨w.heap.size, 0, none⟩ (by simp [Program.arrayLen, Program.elem, Tryd.underlying35]) .i64 (nDigits u : Int) (by omega) (by rw [hal]; omega)]
    go_simp
  have hH0 := holds_zero0 w 35 (nDigits u) (by omega)
  have hfmt := Tryd.internal_strconv_formatBase10 w.heap.size 0 24 u (Array.replicate (nDigits u) 0) (w.alloc (.cells zeros24 35)) hH0 (by rw [Array.size_replicate]; exact lt_pow_nDigits u) hu64 (by rw [Array.size_replicate]; omega)
  rw [Array.size_replicate] at hfmt
  have HH0 := hid hH0
  have iu : (100 : Int) ≤ (u : Int) := by omega
  clear hH0 hal
  go_enter Tryd.func15, Tryd.ntmps15
  go_wp2_with (go_at_call 17; refine (Tryd.internal_strconv_numDigits u (by omega) hu64 _ (tabIs_alloc htab _)).mono ?_; rintro e w' ⟨rfl, rfl⟩)
  refine hfmt.mono ?_
  rintro e w' ⟨rfl, k, v', dk, rfl, hF⟩
  have hcells : ∀ j u', (byteCells (decDigits u))[j]? = some u' → ((putRow (fun (b : UInt8) => Value.int .u8 (b.toNat : Int)) (w.alloc (.cells zeros24 35)) w.heap.size 0 dk).drewN k).cell? ((⟨w.heap.size, 0, none⟩ : Addr).add j) = some u' := by
    intro j u' hj
    have hjl : j < (decDigits u).length := by
      have h5 := (List.getElem?_eq_some_iff.1 hj).1
      rwa [byteCells_length] at h5
    have e5 : (byteCells (decDigits u))[j]? = some (Value.int .u8 ((decDigits u)[j].toNat : Int)) := by simp [byteCells, hjl]
    rw [e5] at hj
    cases hj
    rw [row_is_numeral hF j hjl, Lib.add_plain, World.cell?_drewN]
    exact cell?_putRow (fun (b : UInt8) => Value.int .u8 (b.toNat : Int)) _ w.heap.size 0 _ dk HH0.out (by rw [hF.size, Array.size_replicate]) j (by rw [hF.size]; rw [decDigits_length] at hjl; exact hjl)
  obtain ⟨os, eo⟩ := fin_at w (.cells zeros24 35) dk k 0
  have hb2 : Below w.heap.size w ((putRow (fun (b : UInt8) => Value.int .u8 (b.toNat : Int)) (w.alloc (.cells zeros24 35)) w.heap.size 0 dk).drewN k) := by rw [eo]; exact below_grow _ w (Nat.le_refl _) k os
  have hown2 := ownsRow_below hown hb2
  generalize (putRow (fun (b : UInt8) => Value.int .u8 (b.toNat : Int)) (w.alloc (.cells zeros24 35)) w.heap.size 0 dk).drewN k = W2 at hcells hown2 hb2 ⊢
  clear eo HH0 hfmt
  go_wp2_with (at_builtin; refine wpList_append _ rfl _ _ 22 rfl 5 i0 Tryd.underlying22 hi hz0 hz1 hz2 _ _ _ rfl hown2 ⟨w.heap.size, 0, none⟩ (nDigits u) 24 (byteCells (decDigits u)) rfl ?c0 hcells (byteCells_one _) ?c4 ?_)
  case c0 => rw [byteCells_length, decDigits_length]
  case c4 => omega
  intro v2 w3 hown' hst
  go_wp2
  go_ret
  refine Put.mk _ v2 rfl ?_ ((Step.of_below sv hb2).trans hst)
  rw [decDigits_length]
  exact hown'

/-- strconv.AppendInt(dst, i, 10), i not negative. -/
theorem appendInt_any (n u : Nat) (hu : u ≤ 9223372036854775807) (sv : Value) (xs : List Value) (w : World) (hown : w.ownsRow 0 5 1 sv n xs) (hlim : n + 20 ≤ 140737488355328)
    (htab : TabIs Tryd.prog w powName .u64 pow10Tab) :
    Calls Tryd.prog 13 #[sv, .int .i64 u, .int .i64 10] w fun e w' => Put w sv n xs (decDigits u) e w' := by
  have h15 : Calls Tryd.prog 15 #[sv, .int .u64 u, .int .i64 10] w fun e w' => Put w sv n xs (decDigits u) e w' := by
    by_cases h : u < 100
    · exact au_small n u h sv xs w hown hlim
    · exact au_big n u (by omega) (by omega) sv xs w hown hlim htab
  have H15 := hid h15
  clear h15
  go_enter Tryd.func13, Tryd.ntmps13
  go_wp2_with (first | (go_at_call 14; go_in) | (go_at_call 15; refine H15.out.mono ?_; rintro e w2 ⟨v2, rfl, hown2, hst⟩))
  go_ret
  exact Put.mk _ v2 rfl hown2 hst
end Go.Proofs.Qxb6619304aDoor
