/-
  The fresh copy, the comparison of bytes, and what an owned row says.
-/
import Derived.Test.Qxb6621649aOwn
import Derived.Test.Qxb6621649aRows
import Derived.Lib.Walk
import Derived.Lib.BufferWrite
import Derived.Lib.Slices
import Derived.Lib.SliceRun
import Derived.Lib.Hide
import Derived.Lib.ItoaMem
import Derived.Laws.CopyOwn
import Derived.OwnWalk
import Derived.WalkKit
import Derived.WalkSpells
import Derived.WalkSmall
import Derived.Outline
import Derived.Deep.QuietTactic
import Derived.BigQuiet
namespace Go.Proofs.Qxb6621649a
open Go Go.RowKit Go.Lib

theorem infoByte : (Try.prog.info? 5).map (fun i => (i.zero, i.size, i.bytes)) = some (some (.int .u8 0), 1, 1) := by kernel_rfl

/-- What comes back owns what was owned and, behind it, the bytes l. -/
def Put (w : World) (sv : Value) (n : Nat) (xs : List Value) (l : List UInt8) (e : Ending) (w' : World) : Prop :=
  ∃ v', e = .returned v' ∧ w'.ownsRow 0 5 1 v' (n + l.length) (xs ++ byteCells l) ∧ Step w sv w' v'
theorem Put.mk {w : World} {sv : Value} {n : Nat} {xs : List Value} {l : List UInt8} {w' : World} (v v' : Value) (hv : v = v') (h : w'.ownsRow 0 5 1 v' (n + l.length) (xs ++ byteCells l)) (hs : Step w sv w' v') : Put w sv n xs l (.returned v) w' := ⟨v', by rw [hv], h, hs⟩

theorem size5 : (Try.prog.info? 5).map (·.size) = some 1 := by kernel_rfl

theorem run_bytes (n : Nat) (hn : n ≤ 140737488355328) (w : World) : (Instr.makeSlice 22 (.int .i64 n) (.int .i64 n)).run Try.prog w =
    .ok (.slice (some ⟨w.heap.size, 0, none⟩) n n) (w.alloc (.cells (madeCells #[.int .u8 0] n) 5)) := by
  obtain ⟨i, hi, hz, hs, hb⟩ := info_parts infoByte
  have h := run_make (P := Try.prog) w 22 5 i _ Try.underlying22 hi hz .i64 .i64 n n (by omega) (by omega) (by rw [hb]; omega) (by omega)
  simpa [hs, Value.cells] using h

/-- A slice of bytes that is read: nil, or an address behind which the cells xs lie. -/
def Src (w : World) (sv : Value) (len : Nat) (xs : List Value) : Prop :=
  (sv = .slice none 0 0 ∧ len = 0 ∧ xs = []) ∨ ∃ ad cap, sv = .slice (some ad) len cap ∧ xs.length = len ∧ (∀ j u, xs[j]? = some u → w.cell? (ad.add j) = some u) ∧ ∀ u ∈ xs, u.oneCell' = true

/-- A fresh copy: in a new block, or nil. -/
def Copied (w : World) (len : Nat) (xs : List Value) (e : Ending) (w' : World) : Prop :=
  ∃ v', e = .returned v' ∧ w'.ownsRow 0 5 1 v' len xs ∧ Below w.heap.size w w' ∧ ∀ g, v'.ownBlock = some g → g = w.heap.size ∧ g < w'.heap.size
theorem Copied.mk {w : World} {len : Nat} {xs : List Value} {w' : World} (v v' : Value) (hv : v = v') (h : w'.ownsRow 0 5 1 v' len xs) (hb : Below w.heap.size w w') (hg : ∀ g, v'.ownBlock = some g → g = w.heap.size ∧ g < w'.heap.size) : Copied w len xs (.returned v) w' := ⟨v', by rw [hv], h, hb, hg⟩

theorem clone_nil (w : World) : Calls Try.prog 7 #[.slice none 0 0] w fun e w' => Copied w 0 [] e w' := by
  have hq := fun wx a n c => run_eql_slice_nil (P := Try.prog) wx 22 5 a n c 0 0 Try.underlying22
  go_enter Try.func7, Try.ntmps7
  go_wp2
  go_ret
  exact Copied.mk _ (.slice none 0 0) rfl (World.ownsRow_nil _ _ _ _) (Below.refl _ _) (fun g h => by cases h)

set_option maxRecDepth 100000 in
theorem clone_some (ad : Addr) (len cap : Nat) (xs : List Value) (w : World) (hlim : len ≤ 140737488355328) (hl : xs.length = len) (hc : ∀ j u, xs[j]? = some u → w.cell? (ad.add j) = some u) (h1 : ∀ u ∈ xs, u.oneCell' = true)
    (hlt : 0 < len → ad.block < w.heap.size) :
    Calls Try.prog 7 #[.slice (some ad) len cap] w fun e w' => Copied w len xs e w' := by
  have hq := fun wx a n c => run_eql_slice_nil (P := Try.prog) wx 22 5 a n c 0 0 Try.underlying22
  have hmk := run_bytes len hlim
  have hsz : (madeCells #[Value.int .u8 0] len).size = len := size_madeCells _ _
  have hg := Go.heap_alloc_new w (.cells (madeCells #[.int .u8 0] len) 5)
  have hsrc : ∀ j u, xs[j]? = some u → (w.alloc (.cells (madeCells #[.int .u8 0] len) 5)).cell? (ad.add j) = some u := by
    intro j u hj
    have hj' := (List.getElem?_eq_some_iff.1 hj).1
    rw [World.cell?_alloc_lt _ _ _ (by
      have := hlt (by omega)
      unfold Addr.add; split <;> simpa using this)]
    exact hc j u hj
  have hcp := run_copy_row Try.prog (w.alloc (.cells (madeCells #[.int .u8 0] len) 5)) 22 22 3 5 w.heap.size 0 len len ad len cap (madeCells #[.int .u8 0] len) 5 xs Try.underlying22 size5 hg (by rw [hl]; exact (Nat.min_self _).symm) hsrc (by omega) h1
  have ht : (madeCells #[Value.int .u8 0] len).toList.take 0 ++ xs ++ (madeCells #[Value.int .u8 0] len).toList.drop (0 + xs.length) = xs := by
    rw [List.take_zero, List.nil_append, Nat.zero_add, List.drop_eq_nil_of_le (by simp; omega), List.append_nil]
  rw [ht] at hcp
  obtain ⟨W2, hW2⟩ : ∃ W2, W2 = (w.alloc (.cells (madeCells #[.int .u8 0] len) 5)).setRow w.heap.size xs.toArray := ⟨_, rfl⟩
  rw [← hW2] at hcp
  have HW2 := hid hW2
  have HG := hid hg
  clear hW2 hg hsrc hc ht
  go_enter Try.func7, Try.ntmps7
  go_wp2
  go_ret
  have hW2 := HW2.out
  have hrow : W2.heap[w.heap.size]? = some (.cells xs.toArray 5) := by rw [hW2]; exact setRow_heap _ _ _ _ _ _ HG.out
  have hb : Below w.heap.size w W2 := by rw [hW2]; exact below_setRow ((Below.refl _ _).alloc (Nat.le_refl _) _) (Nat.le_refl _) _
  refine Copied.mk _ (.slice (some ⟨w.heap.size, 0, none⟩) len len) rfl ⟨by omega, .inr ⟨w.heap.size, len, xs.toArray, rfl, Nat.zero_le _, hrow, Nat.le_refl _, by unfold maxLen; omega, by simp [hl], by simp [← hl]⟩⟩ hb ?_
  intro g h
  cases h
  exact ⟨rfl, (Array.getElem?_eq_some_iff.1 hrow).1⟩

/-- A fresh copy of whatever slice of bytes. -/
theorem clone_any (sv : Value) (len : Nat) (xs : List Value) (w : World) (hlim : len ≤ 140737488355328) (h : Src w sv len xs) : Calls Try.prog 7 #[sv] w fun e w' => Copied w len xs e w' := by
  rcases h with ⟨rfl, rfl, rfl⟩ | ⟨ad, cap, rfl, hl, hc, h1⟩
  · exact clone_nil w
  · refine clone_some ad len cap xs w hlim hl hc h1 fun hpos => ?_
    have h0 := hc 0 xs[0] (by simp)
    have := World.block_lt_of_cell? _ _ h0
    simpa [Addr.add] using this

/-- An owned row can be read. -/
theorem src_of_owns {w : World} {v : Value} {n : Nat} {xs : List Value} (h : w.ownsRow 0 5 1 v n xs) (h1 : ∀ u ∈ xs, u.oneCell' = true) : Src w v n xs := by
  rcases h.2 with ⟨rfl, rfl⟩ | ⟨g, cap, cur, rfl, -, -, -, -, -, -⟩
  · exact .inl ⟨rfl, rfl, List.eq_nil_of_length_eq_zero (by simpa using h.1)⟩
  · exact .inr ⟨⟨g, 0, none⟩, cap, rfl, by simpa using h.1, h.cells (g := g) rfl, h1⟩

/-! ### zzEqual -/

set_option maxRecDepth 100000 in
theorem equal_zero (a b : Option Addr) (c1 c2 : Nat) (w : World) : Calls Try.prog 9 #[.slice a 0 c1, .slice b 0 c2] w fun e w' => e = .returned (.bool true) ∧ Below w.heap.size w w' := by
  go_enter Try.func9, Try.ntmps9
  go_wp2_with fail
  go_loop [5] (fun i => i = .int .i64 0) (fun _ => 0)
  case atStart => rfl
  case round =>
    obtain rfl := hrel
    go_wp2
    go_ret
    exact ⟨rfl, Below.refl _ _⟩

set_option maxRecDepth 100000 in
theorem equal_some (g1 o1 c1 g2 o2 c2 m : Nat) (z : Nat → Int) (w : World) (hm : m ≤ maxLen)
    (hc1 : ∀ i, i < m → w.cell? ⟨g1, o1 + i, none⟩ = some (.int .u8 (z i))) (hc2 : ∀ i, i < m → w.cell? ⟨g2, o2 + i, none⟩ = some (.int .u8 (z i))) :
    Calls Try.prog 9 #[.slice (some ⟨g1, o1, none⟩) m c1, .slice (some ⟨g2, o2, none⟩) m c2] w fun e w' => e = .returned (.bool true) ∧ Below w.heap.size w w' := by
  unfold maxLen at hm
  have HC1 := hid hc1
  have HC2 := hid hc2
  clear hc1 hc2
  go_enter Try.func9, Try.ntmps9
  go_wp2_with fail
  go_loopw [5] (fun i wr => ∃ k q : Nat, k ≤ m ∧ i = .int .i64 k ∧ wr = w.drewN q) (fun i _ => m - (RowKit.intOf i).toNat)
  case atStart => exact ⟨0, 0, by omega, rfl, rfl⟩
  case round =>
    obtain ⟨k, q, hk, rfl, rfl⟩ := hrel
    by_cases hlt : k < m
    · have ck1 := HC1.out k hlt
      have ck2 := HC2.out k hlt
      go_wp2_with fail
      go_quiet (fail)
      go_wp2
      exact ⟨⟨k + 1, q + nq, by omega, by go_num, rfl⟩, by simp [RowKit.intOf]; omega⟩
    · go_wp2
      go_ret
      exact ⟨rfl, below_drewN (Below.refl _ _) _⟩

/-- Bytes as cells. -/
theorem u8cells_one {xs : List Value} (h : ∀ u ∈ xs, ∃ z : Int, u = .int .u8 z) : ∀ u ∈ xs, u.oneCell' = true := by
  intro u hu; obtain ⟨z, rfl⟩ := h u hu; rfl

/-- Two owned rows of one length whose cells are the same: zzEqual says yes, whatever is cut off behind. -/
theorem equal_owned {w : World} {v1 v2 : Value} {n1 n2 : Nat} {xs ys1 ys2 : List Value} (h1 : w.ownsRow 0 5 1 v1 n1 (xs ++ ys1)) (h2 : w.ownsRow 0 5 1 v2 n2 (xs ++ ys2)) (hu : ∀ u ∈ xs, ∃ z : Int, u = .int .u8 z)
    (a1 a2 : Option Addr) (m1 m2 c1 c2 d1 d2 : Nat) (e1 : v1 = .slice a1 m1 d1) (e2 : v2 = .slice a2 m2 d2) :
    Calls Try.prog 9 #[.slice a1 xs.length c1, .slice a2 xs.length c2] w fun e w' => e = .returned (.bool true) ∧ Below w.heap.size w w' := by
  by_cases h0 : xs.length = 0
  · rw [h0]; exact equal_zero a1 a2 c1 c2 w
  · have hx : xs ≠ [] := fun e => h0 (by rw [e]; rfl)
    have hl1 := h1.1
    have hl2 := h2.1
    rw [List.length_append] at hl1 hl2
    rcases h1.2 with ⟨-, h0⟩ | ⟨g1, cap1, cur1, hv1, -, -, hle1, hmx1, -, -⟩
    · omega
    rcases h2.2 with ⟨-, h0⟩ | ⟨g2, cap2, cur2, hv2, -, -, -, -, -, -⟩
    · omega
    have k1 := hv1.symm.trans e1
    have k2 := hv2.symm.trans e2
    cases k1
    cases k2
    subst hv1 hv2
    have cell : ∀ {v : Value} {n g : Nat} {ys : List Value}, w.ownsRow 0 5 1 v n (xs ++ ys) → v.ownBlock = some g → ∀ i, i < xs.length → w.cell? ⟨g, 0 + i, none⟩ = some (.int .u8 (RowKit.intOf (xs.getD i (.int .u8 0)))) := by
      intro v n g ys ho hb i hi
      rw [← Lib.add_plain]
      refine ho.cells hb i _ ?_
      rw [List.getElem?_append_left hi, List.getElem?_eq_getElem hi]
      obtain ⟨z, hz⟩ := hu xs[i] (List.getElem_mem hi)
      have : xs.getD i (.int .u8 0) = xs[i] := by simp [List.getD, hi]
      rw [this, hz]
      rfl
    exact equal_some g1 0 c1 g2 0 c2 xs.length _ w (by omega) (cell h1 rfl) (cell h2 rfl)

theorem owns_form {w : World} {v : Value} {n : Nat} {xs : List Value} (h : w.ownsRow 0 5 1 v n xs) : ∃ a c, v = .slice a n c ∧ n ≤ c ∧ c ≤ maxLen ∧ (a = none → n = 0 ∧ c = 0) ∧ ∀ x, a = some x → ∃ g, x = ⟨g, 0, none⟩ ∧ v.ownBlock = some g := by
  rcases h.2 with ⟨rfl, rfl⟩ | ⟨g, cap, cur, rfl, -, -, hle, hmx, -, -⟩
  · exact ⟨none, 0, rfl, Nat.le_refl _, Nat.zero_le _, fun _ => ⟨rfl, rfl⟩, fun x hx => by cases hx⟩
  · exact ⟨some ⟨g, 0, none⟩, cap, rfl, hle, hmx, (fun h => by cases h), (fun x hx => by cases hx; exact ⟨g, rfl, rfl⟩)⟩

theorem u8_byteCells (l : List UInt8) : ∀ u ∈ byteCells l, ∃ z : Int, u = .int .u8 z := by
  intro u hu
  simp only [byteCells, List.mem_map] at hu
  obtain ⟨b, _, rfl⟩ := hu
  exact ⟨_, rfl⟩

theorem u8_append {xs : List Value} (h : ∀ u ∈ xs, ∃ z : Int, u = .int .u8 z) (l : List UInt8) : ∀ u ∈ xs ++ byteCells l, ∃ z : Int, u = .int .u8 z := by
  intro u hu
  rcases List.mem_append.1 hu with h1 | h1
  · exact h u h1
  · exact u8_byteCells l u h1

end Go.Proofs.Qxb6621649a
