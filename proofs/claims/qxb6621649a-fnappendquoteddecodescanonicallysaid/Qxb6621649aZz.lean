/-
  ZZappendQuoted, and an append from whatever can be read.
-/
import Derived.Test.Qxb6621649aQuote
namespace Go.Proofs.Qxb6621649a
open Go Go.RowKit Go.Lib

theorem zzquote_any (n : Nat) (s : ByteArray) (sv : Value) (xs : List Value) (w : World) (hown : w.ownsRow 0 5 1 sv n xs) (hs : s.size ≤ 1048576) (hn : n ≤ 1048576) :
    Calls Try.prog 8 #[sv, .string s] w fun e w' => Put w sv n xs (quote s.data.toList) e w' := by
  have H := hid (quote_any n s sv xs w hown hs hn)
  clear hown
  go_enter Try.func8, Try.ntmps8
  go_wp2_with fail
  refine H.out.mono ?_
  rintro e w1 ⟨v1, rfl, own1, st1⟩
  have HO := hid own1
  have HS := hid st1
  clear own1 st1
  go_wp2
  go_ret
  exact Put.mk _ v1 rfl HO.out HS.out

section
variable {P : Program} (w : World)
theorem append_none (t ty e : TypeId) (i : TypeInfo) (ht : P.underlying t = some (.slice e)) (hi : P.info? e = some i)
    (v : Value) (n : Nat) (xs : List Value) (hown : w.ownsRow 0 e 1 v n xs) : (Builtin.append_ #[t, t] ty #[v, .slice none 0 0]).run P w = .ok v w := by
  rcases hown.2 with ⟨rfl, rfl⟩ | ⟨g, cap, cur, rfl, hbg, hg, hnc, hcm, hcs, htake⟩
  · simp [Builtin.append_, run_underlying ht, sizeOf, typeInfo, hi, Builtin.lenOf, Builtin.firstCells]
  · simp [Builtin.append_, run_underlying ht, sizeOf, typeInfo, hi, Builtin.lenOf, Builtin.firstCells, storeCells, hnc]

/-- 'append(b, xs...)' at the operation, xs whatever can be read. -/
theorem wpList_append_src {ops : Array Oper} {rest : List Oper} {o : Oper} {a : Act} {Q : Exit → Act → World → Prop} (hgd : o.guard = none) (s x : Operand) (t : TypeId)
    (ho : o.op = .call { callee := .builtin .append, args := #[s, x], argTypes := #[t, t] })
    (e : TypeId) (i : TypeInfo) (ht : P.underlying t = some (.slice e)) (hi : P.info? e = some i) (hz : i.zero = some (.int .u8 0)) (hsize : i.size = 1) (hby : i.bytes = 1)
    (v : Value) (n : Nat) (xs : List Value) (hs : a.eval s = v) (hown : w.ownsRow 0 e 1 v n xs)
    (xv : Value) (m : Nat) (news : List Value) (hx : a.eval x = xv) (hsrc : Src w xv m news)
    (hlim : n + m ≤ 140737488355328)
    (h : ∀ v' w', w'.ownsRow 0 e 1 v' (n + m) (xs ++ news) → Step w v w' v' → wpList P ops Q rest (a.put o.dst v') w') : wpList P ops Q (o :: rest) a w := by
  rcases hsrc with ⟨rfl, rfl, rfl⟩ | ⟨ad, c, rfl, hl, hnews, h1⟩
  · refine wpList_plain hgd fun K hK => ?_
    have hr := append_none (P := P) w t o.type e i ht hi v n xs hown
    unfold Oper.wp execOp
    simp only [ho, resolve, invoke, builtin, Sem.run_bind, Sem.run_pure, Result.andThen_ok, List.map_toArray, List.map_cons, List.map_nil, hs, hx, hr]
    exact hK _ _ (h v w (by rw [List.append_nil]; exact hown) (Step.refl w v))
  · exact wpList_append w hgd s x t ho e i ht hi hz hsize hby v n xs hs hown ad m c news hx hl hnews h1 hlim h
end

/-- 'make([]byte, 0, cap)'. -/
theorem run_room (cap : Nat) (hn : cap ≤ 140737488355328) (w : World) : (Instr.makeSlice 22 (.int .i64 0) (.int .i64 cap)).run Try.prog w =
    .ok (.slice (some ⟨w.heap.size, 0, none⟩) 0 cap) (w.alloc (.cells (madeCells #[.int .u8 0] cap) 5)) := by
  obtain ⟨i, hi, hz, hs, hb⟩ := info_parts infoByte
  have h := run_make (P := Try.prog) w 22 5 i _ Try.underlying22 hi hz .i64 .i64 0 cap (by omega) (by omega) (by rw [hb]; omega) (by omega)
  simpa [hs, Value.cells] using h

theorem owns_room (cap : Nat) (hn : cap ≤ 140737488355328) (w : World) : (w.alloc (.cells (madeCells #[.int .u8 0] cap) 5)).ownsRow 0 5 1 (.slice (some ⟨w.heap.size, 0, none⟩) 0 cap) 0 [] :=
  ⟨rfl, .inr ⟨w.heap.size, cap, _, rfl, Nat.zero_le _, Go.heap_alloc_new w _, Nat.zero_le _, by unfold maxLen; omega, by rw [size_madeCells]; simp, by simp⟩⟩

/-- The room, its world and block by their names. -/
theorem room (cap : Nat) (hn : cap ≤ 140737488355328) (w : World) : ∃ g w', (Instr.makeSlice 22 (.int .i64 0) (.int .i64 cap)).run Try.prog w = .ok (.slice (some ⟨g, 0, none⟩) 0 cap) w' ∧ w'.ownsRow 0 5 1 (.slice (some ⟨g, 0, none⟩) 0 cap) 0 [] ∧ Below w.heap.size w w' ∧ g = w.heap.size ∧ w.heap.size < w'.heap.size :=
  ⟨_, _, run_room cap hn w, owns_room cap hn w, (Below.refl _ _).alloc (Nat.le_refl _) _, rfl, (Array.getElem?_eq_some_iff.1 (Go.heap_alloc_new w _)).1⟩

/-- Rows in new blocks stay as they are. -/
theorem Step.keep {w w' : World} {v v' u : Value} {e : TypeId} {n : Nat} {xs : List Value} (h : Step w v w' v') (hu : w.ownsRow 0 e 1 u n xs) (hne : ∀ g, u.ownBlock = some g → v.ownBlock ≠ some g) : w'.ownsRow 0 e 1 u n xs := by
  refine h.other hu ?_
  cases hg : u.ownBlock with
  | none => exact .inl rfl
  | some g => exact .inr fun e => hne g hg e.symm

/-- An owned row's block lies in the heap. -/
theorem owns_lt {w : World} {v : Value} {n : Nat} {xs : List Value} (h : w.ownsRow 0 5 1 v n xs) : ∀ g, v.ownBlock = some g → g < w.heap.size := by
  intro g hg
  rcases h.2 with ⟨rfl, rfl⟩ | ⟨g', cap, cur, rfl, -, hb, -⟩
  · cases hg
  · cases hg; exact (Array.getElem?_eq_some_iff.1 hb).1

/-- A part of an owned row can be read. -/
theorem src_part {w : World} {g n c off m c' : Nat} {xs ys zs : List Value} (h : w.ownsRow 0 5 1 (.slice (some ⟨g, 0, none⟩) n c) n (xs ++ ys ++ zs)) (h1 : ∀ u ∈ xs ++ ys ++ zs, ∃ z : Int, u = .int .u8 z) (ho : xs.length = off) (hm : ys.length = m) :
    Src w (.slice (some ⟨g, off, none⟩) m c') m ys := by
  refine .inr ⟨_, c', rfl, hm, fun j u hj => ?_, fun u hu => u8cells_one h1 u (by simp [hu])⟩
  have hjl := (List.getElem?_eq_some_iff.1 hj).1
  have := h.cells (g := g) rfl (off + j) u (by rw [List.append_assoc, List.getElem?_append_right (by omega), List.getElem?_append_left (by omega)]; rw [show off + j - xs.length = j by omega]; exact hj)
  rw [Lib.add_plain] at this ⊢
  rwa [Nat.zero_add] at this
end Go.Proofs.Qxb6621649a
