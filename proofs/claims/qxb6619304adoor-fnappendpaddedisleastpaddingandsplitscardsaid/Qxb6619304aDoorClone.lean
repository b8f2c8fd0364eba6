/-
  zzClone and zzEqual.
-/
import Derived.Test.Qxb6619304aDoorSorts
import Derived.Laws.CopyOwn
namespace Go.Proofs.Qxb6619304aDoor
open Go Go.RowKit Go.Lib Go.Sort

theorem size5 : (Tryd.prog.info? 5).map (·.size) = some 1 := by kernel_rfl

theorem run_bytes (n : Nat) (hn : n ≤ 140737488355328) (w : World) : (Instr.makeSlice 22 (.int .i64 n) (.int .i64 n)).run Tryd.prog w =
    .ok (.slice (some ⟨w.heap.size, 0, none⟩) n n) (w.alloc (.cells (madeCells #[.int .u8 0] n) 5)) := by
  obtain ⟨i, hi, hz, hs, hb⟩ := info_parts infoByte
  have h := run_make (P := Tryd.prog) w 22 5 i _ Tryd.underlying22 hi hz .i64 .i64 n n (by omega) (by omega) (by rw [hb]; omega) (by omega)
  simpa [hs, Value.cells] using h

/-- A slice of bytes that is read: nil, or an address behind which the cells xs lie. -/
def Src (w : World) (sv : Value) (len : Nat) (xs : List Value) : Prop :=
  (sv = .slice none 0 0 ∧ len = 0 ∧ xs = []) ∨ ∃ ad cap, sv = .slice (some ad) len cap ∧ xs.length = len ∧ (∀ j u, xs[j]? = some u → w.cell? (ad.add j) = some u) ∧ ∀ u ∈ xs, u.oneCell' = true

/-- A fresh copy: in a new block, or nil. -/
def Copied (w : World) (len : Nat) (xs : List Value) (e : Ending) (w' : World) : Prop :=
  ∃ v', e = .returned v' ∧ w'.ownsRow 0 5 1 v' len xs ∧ Below w.heap.size w w' ∧ ∀ g, v'.ownBlock = some g → g = w.heap.size ∧ g < w'.heap.size
theorem Copied.mk {w : World} {len : Nat} {xs : List Value} {w' : World} (v v' : Value) (hv : v = v') (h : w'.ownsRow 0 5 1 v' len xs) (hb : Below w.heap.size w w') (hg : ∀ g, v'.ownBlock = some g → g = w.heap.size ∧ g < w'.heap.size) : Copied w len xs (.returned v) w' := ⟨v', by rw [hv], h, hb, hg⟩

theorem clone_nil (w : World) : Calls Tryd.prog 7 #[.slice none 0 0] w fun e w' => Copied w 0 [] e w' := by
  have hq := fun wx a n c => run_eql_slice_nil (P := Tryd.prog) wx 22 5 a n c 0 0 Tryd.underlying22
  go_enter Tryd.func7, Tryd.ntmps7
  go_wp2
  go_ret
  exact Copied.mk _ (.slice none 0 0) rfl (World.ownsRow_nil _ _ _ _) (Below.refl _ _) (fun g h => by cases h)

set_option maxRecDepth 100000 in
theorem clone_some (ad : Addr) (len cap : Nat) (xs : List Value) (w : World) (hlim : len ≤ 140737488355328) (hl : xs.length = len) (hc : ∀ j u, xs[j]? = some u → w.cell? (ad.add j) = some u) (h1 : ∀ u ∈ xs, u.oneCell' = true)
    (hlt : 0 < len → ad.block < w.heap.size) :
    Calls Tryd.prog 7 #[.slice (some ad) len cap] w fun e w' => Copied w len xs e w' := by
  have hq := fun wx a n c => run_eql_slice_nil (P := Tryd.prog) wx 22 5 a n c 0 0 Tryd.underlying22
  have hmk := run_bytes len hlim
  have hsz : (madeCells #[Value.int .u8 0] len).size = len := size_madeCells _ _
  have hg := Go.heap_alloc_new w (.cells (madeCells #[.int .u8 0] len) 5)
  have hsrc : ∀ j u, xs[j]? = some u → (w.alloc (.cells (madeCells #[.int .u8 0] len) 5)).cell? (ad.add j) = some u := by
    intro j u hj
    have hj' := (List.getElem?_eq_some_iff.1 hj).1
    rw [World.cell?_alloc_lt _ _ _ (by
      have := hlt (by omega)
      unfold Addr.add; split <;> simpa using this)]
    exact hc j u hj
  have hcp := run_copy_row Tryd.prog (w.alloc (.cells (madeCells #[.int .u8 0] len) 5)) 22 22 3 5 w.heap.size 0 len len ad len cap (madeCells #[.int .u8 0] len) 5 xs Tryd.underlying22 size5 hg (by rw [hl]; exact (Nat.min_self _).symm) hsrc (by omega) h1
  have ht : (madeCells #[Value.int .u8 0] len).toList.take 0 ++ xs ++ (madeCells #[Value.int .u8 0] len).toList.drop (0 + xs.length) = xs := by
    rw [List.take_zero, List.nil_append, Nat.zero_add, List.drop_eq_nil_of_le (by simp; omega), List.append_nil]
  rw [ht] at hcp
  obtain ⟨W2, hW2⟩ : ∃ W2, W2 = (w.alloc (.cells (madeCells #[.int .u8 0] len) 5)).setRow w.heap.size xs.toArray := ⟨_, rfl⟩
  rw [← hW2] at hcp
  have HW2 := hid hW2
  have HG := hid hg
  clear hW2 hg hsrc hc ht
  go_enter Tryd.func7, Tryd.ntmps7
  go_wp2
  go_ret
  have hW2 := HW2.out
  have hrow : W2.heap[w.heap.size]? = some (.cells xs.toArray 5) := by rw [hW2]; exact setRow_heap _ _ _ _ _ _ HG.out
  have hb : Below w.heap.size w W2 := by rw [hW2]; exact below_setRow ((Below.refl _ _).alloc (Nat.le_refl _) _) (Nat.le_refl _) _
  refine Copied.mk _ (.slice (some ⟨w.heap.size, 0, none⟩) len len) rfl ⟨by omega, .inr ⟨w.heap.size, len, xs.toArray, rfl, Nat.zero_le _, hrow, Nat.le_refl _, by unfold maxLen; omega, by simp [hl], by simp [← hl]⟩⟩ hb ?_
  intro g h
  cases h
  exact ⟨rfl, (Array.getElem?_eq_some_iff.1 hrow).1⟩

/-- A fresh copy of whatever slice of bytes. -/
theorem clone_any (sv : Value) (len : Nat) (xs : List Value) (w : World) (hlim : len ≤ 140737488355328) (h : Src w sv len xs) : Calls Tryd.prog 7 #[sv] w fun e w' => Copied w len xs e w' := by
  rcases h with ⟨rfl, rfl, rfl⟩ | ⟨ad, cap, rfl, hl, hc, h1⟩
  · exact clone_nil w
  · refine clone_some ad len cap xs w hlim hl hc h1 fun hpos => ?_
    have h0 := hc 0 xs[0] (by simp)
    have := World.block_lt_of_cell? _ _ h0
    simpa [Addr.add] using this

/-- An owned row can be read. -/
theorem src_of_owns {w : World} {v : Value} {n : Nat} {xs : List Value} (h : w.ownsRow 0 5 1 v n xs) (h1 : ∀ u ∈ xs, u.oneCell' = true) : Src w v n xs := by
  rcases h.2 with ⟨rfl, rfl⟩ | ⟨g, cap, cur, rfl, -, -, -, -, -, -⟩
  · exact .inl ⟨rfl, rfl, List.eq_nil_of_length_eq_zero (by simpa using h.1)⟩
  · exact .inr ⟨⟨g, 0, none⟩, cap, rfl, by simpa using h.1, h.cells (g := g) rfl, h1⟩

/-! ### zzEqual -/

set_option maxRecDepth 100000 in
theorem equal_zero (a b : Option Addr) (c1 c2 : Nat) (w : World) : Calls Tryd.prog 9 #[.slice a 0 c1, .slice b 0 c2] w fun e w' => e = .returned (.bool true) ∧ Below w.heap.size w w' := by
  go_enter Tryd.func9, Tryd.ntmps9
  go_wp2_with fail
  go_loop [5] (fun i => i = .int .i64 0) (fun _ => 0)
  case atStart => rfl
  case round =>
    obtain rfl := hrel
    go_wp2
    go_ret
    exact ⟨rfl, Below.refl _ _⟩

set_option maxRecDepth 100000 in
theorem equal_some (g1 o1 c1 g2 o2 c2 m : Nat) (z : Nat → Int) (w : World) (hm : m ≤ maxLen)
    (hc1 : ∀ i, i < m → w.cell? ⟨g1, o1 + i, none⟩ = some (.int .u8 (z i))) (hc2 : ∀ i, i < m → w.cell? ⟨g2, o2 + i, none⟩ = some (.int .u8 (z i))) :
    Calls Tryd.prog 9 #[.slice (some ⟨g1, o1, none⟩) m c1, .slice (some ⟨g2, o2, none⟩) m c2] w fun e w' => e = .returned (.bool true) ∧ Below w.heap.size w w' := by
  unfold maxLen at hm
  have HC1 := hid hc1
  have HC2 := hid hc2
  clear hc1 hc2
  go_enter Tryd.func9, Tryd.ntmps9
  go_wp2_with fail
  go_loopw [5] (fun i wr => ∃ k q : Nat, k ≤ m ∧ i = .int .i64 k ∧ wr = w.drewN q) (fun i _ => m - (RowKit.intOf i).toNat)
  case atStart => exact ⟨0, 0, by omega, rfl, rfl⟩
  case round =>
    obtain ⟨k, q, hk, rfl, rfl⟩ := hrel
    by_cases hlt : k < m
    · have ck1 := HC1.out k hlt
      have ck2 := HC2.out k hlt
      go_wp2_with fail
      go_quiet (fail)
      go_wp2
      exact ⟨⟨k + 1, q + nq, by omega, by go_num, rfl⟩, by simp [RowKit.intOf]; omega⟩
    · go_wp2
      go_ret
      exact ⟨rfl, below_drewN (Below.refl _ _) _⟩

theorem bytes_yes (a : Option Addr) (len cap : Nat) (n width k : Int) (w : World) (h : len ≤ 1048576) :
    Calls Tryd.prog 5 #[.slice a len cap, .int .i64 n, .int .i64 width, .int .i64 k] w fun e w' => e = .returned (.bool true) ∧ w' = w := by
  go_enter Tryd.func5, Tryd.ntmps5
  go_wp2
  go_ret
  exact ⟨rfl, rfl⟩

theorem bytes_no (a : Option Addr) (len cap : Nat) (n width k : Int) (w : World) (h : 1048576 < len) :
    Calls Tryd.prog 5 #[.slice a len cap, .int .i64 n, .int .i64 width, .int .i64 k] w fun e w' => e = .returned (.bool false) ∧ w' = w := by
  go_enter Tryd.func5, Tryd.ntmps5
  go_wp2
  go_ret
  exact ⟨rfl, rfl⟩
end Go.Proofs.Qxb6619304aDoor
