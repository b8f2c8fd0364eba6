/-
  What an append does to a row of bytes that the call owns, with the exact frame: nothing but the row's own block turns, and the new value lies in that block or in a new one.
-/
import Derived.Laws.AppendOwn
import Derived.Lib.AppendStr
import Derived.OwnWalk
import Derived.Below
namespace Go.Proofs.Qxb6621649a
open Go Go.RowKit Go.Lib

/-- From (w, v) to (w', v'): no old block but v's own has turned; v' lies in v's own block or in a new one. -/
structure Step (w : World) (v : Value) (w' : World) (v' : Value) : Prop where
  grown : w.grownBy w' v.ownBlock
  at_ : v'.ownBlock = v.ownBlock ∨ ∃ g, v'.ownBlock = some g ∧ w.heap.size ≤ g

theorem Step.refl (w : World) (v : Value) : Step w v w v := ⟨⟨rfl, rfl, rfl, Nat.le_refl _, fun _ _ _ => rfl⟩, .inl rfl⟩

theorem Step.trans {w w1 w2 : World} {v v1 v2 : Value} (h : Step w v w1 v1) (k : Step w1 v1 w2 v2) : Step w v w2 v2 := by
  have hs := h.grown.size
  refine ⟨⟨k.grown.os.trans h.grown.os, k.grown.tape.trans h.grown.tape, k.grown.output.trans h.grown.output, Nat.le_trans hs k.grown.size, fun j hj hne => ?_⟩, ?_⟩
  · rw [k.grown.block j (by omega) (by
      rcases h.at_ with e | ⟨g, e, hg⟩
      · rw [e]; exact hne
      · rw [e]; intro e2; cases e2; omega)]
    exact h.grown.block j hj hne
  · rcases k.at_ with e | ⟨g, e, hg⟩
    · rw [e]; exact h.at_
    · exact .inr ⟨g, e, by omega⟩

/-- New blocks and draws on the way. -/
theorem Step.of_below {w w1 : World} (v : Value) (h : Below w.heap.size w w1) : Step w v w1 v :=
  ⟨⟨h.os, h.tape, h.output, h.size, fun j hj _ => h.block j hj⟩, .inl rfl⟩

/-- Below any number up to the row's own block nothing turns. -/
theorem Step.below {w w' : World} {v v' : Value} (h : Step w v w' v') {B : Nat} (hB : B ≤ w.heap.size) (hv : ∀ k, v.ownBlock = some k → B ≤ k) : Below B w w' :=
  ⟨h.grown.os, h.grown.tape, h.grown.output, h.grown.size, fun j hj => h.grown.block j (by omega) (fun e => by have := hv j e.symm; omega)⟩

/-- Another row that is owned stays owned. -/
theorem Step.other {w w' : World} {v v' u : Value} {e : TypeId} {n : Nat} {xs : List Value} (h : Step w v w' v') (hu : w.ownsRow 0 e 1 u n xs) (hne : u.ownBlock = none ∨ u.ownBlock ≠ v.ownBlock) : w'.ownsRow 0 e 1 u n xs := hu.kept h.grown hne

theorem ownsRow_below {w w' : World} {e : TypeId} {v : Value} {n : Nat} {xs : List Value} (h : w.ownsRow 0 e 1 v n xs) (hb : Below w.heap.size w w') : w'.ownsRow 0 e 1 v n xs :=
  h.kept (row := none) ⟨hb.os, hb.tape, hb.output, hb.size, fun j hj _ => hb.block j hj⟩ (by cases hv : v.ownBlock <;> simp)

section
variable {P : Program} (w : World)

theorem append_at (t ty e : TypeId) (i : TypeInfo) (ht : P.underlying t = some (.slice e)) (hi : P.info? e = some i) (hz : i.zero = some (.int .u8 0)) (hsize : i.size = 1) (hby : i.bytes = 1)
    (v : Value) (n : Nat) (xs : List Value) (hown : w.ownsRow 0 e 1 v n xs)
    (a : Addr) (m c : Nat) (news : List Value) (hl : news.length = m) (hnews : ∀ j u, news[j]? = some u → w.cell? (a.add j) = some u) (h1 : ∀ u ∈ news, u.oneCell' = true)
    (hlim : n + m ≤ 140737488355328) {v' : Value} {w' : World} (hr : (Builtin.append_ #[t, t] ty #[v, .slice (some a) m c]).run P w = .ok v' w') :
    v'.ownBlock = v.ownBlock ∨ ∃ g, v'.ownBlock = some g ∧ w.heap.size ≤ g := by
  have hl' : news.length = m * i.size := by rw [hsize, Nat.mul_one]; exact hl
  have hxl : xs.length = n * i.size := by rw [hsize]; exact hown.1
  rcases hown.2 with ⟨rfl, rfl⟩ | ⟨g, cap, cur, rfl, hbg, hg, hnc, hcm, hcs, htake⟩
  · by_cases hm : m = 0
    · subst hm
      have hn : news = [] := List.eq_nil_of_length_eq_zero hl
      subst hn
      have h2 : (Builtin.append_ #[t, t] ty #[.slice none 0 0, .slice (some a) 0 c]).run P w = .ok (.slice none 0 0) w := by
        simp [Builtin.append_, run_underlying ht, sizeOf, typeInfo, hi, Builtin.lenOf, Builtin.firstCells, loadCells, loadCellsFrom]
      rw [h2] at hr
      cases hr
      exact .inl rfl
    · have h2 := run_append_nil (P := P) w t ty e i _ ht hi hz a m c news hl' hnews (by omega) (by omega) (by rw [hby]; omega)
      rw [h2] at hr
      cases hr
      exact .inr ⟨_, rfl, Nat.le_refl _⟩
  · by_cases hroom : n + m ≤ cap
    · have h2 := run_append_room (P := P) w t ty e i ht hi g n cap cur hg a m c news hl' hnews h1 hroom (by rw [hl', hsize, hcs]; omega)
      rw [h2] at hr
      cases hr
      exact .inl rfl
    · have holds : ∀ j u, xs[j]? = some u → w.cell? ((⟨g, 0, none⟩ : Addr).add j) = some u := hown.cells (g := g) rfl
      have h2 := run_append_grow (P := P) w t ty e i _ ht hi hz ⟨g, 0, none⟩ n cap xs hxl holds a m c news hl' hnews (by omega) (by omega) (growslice_fits (by omega) (by rw [hby]; omega))
      rw [h2] at hr
      cases hr
      exact .inr ⟨_, rfl, Nat.le_refl _⟩

/-- 'append(b, xs...)' at the operation, for the walk. -/
theorem wpList_append {ops : Array Oper} {rest : List Oper} {o : Oper} {a : Act} {Q : Exit → Act → World → Prop} (hgd : o.guard = none) (s x : Operand) (t : TypeId)
    (ho : o.op = .call { callee := .builtin .append, args := #[s, x], argTypes := #[t, t] })
    (e : TypeId) (i : TypeInfo) (ht : P.underlying t = some (.slice e)) (hi : P.info? e = some i) (hz : i.zero = some (.int .u8 0)) (hsize : i.size = 1) (hby : i.bytes = 1)
    (v : Value) (n : Nat) (xs : List Value) (hs : a.eval s = v) (hown : w.ownsRow 0 e 1 v n xs)
    (ad : Addr) (m c : Nat) (news : List Value) (hx : a.eval x = .slice (some ad) m c) (hl : news.length = m) (hnews : ∀ j u, news[j]? = some u → w.cell? (ad.add j) = some u) (h1 : ∀ u ∈ news, u.oneCell' = true)
    (hlim : n + m ≤ 140737488355328)
    (h : ∀ v' w', w'.ownsRow 0 e 1 v' (n + m) (xs ++ news) → Step w v w' v' → wpList P ops Q rest (a.put o.dst v') w') : wpList P ops Q (o :: rest) a w := by
  refine wpList_plain hgd fun K hK => ?_
  obtain ⟨v', w', hr, h2, h3, -⟩ := run_append_own (P := P) w 0 t o.type e i (.int .u8 0) 1 1 ht hi hz hsize hby rfl (by decide) v n xs hown ad m c news (by rw [Nat.mul_one]; exact hl) hnews h1 (by unfold maxLen; omega) (by omega) (Nat.zero_le _)
  have h4 := append_at w t o.type e i ht hi hz hsize hby v n xs hown ad m c news hl hnews h1 hlim hr
  unfold Oper.wp execOp
  simp only [ho, resolve, invoke, builtin, Sem.run_bind, Sem.run_pure, Result.andThen_ok, List.map_toArray, List.map_cons, List.map_nil, hs, hx, hr]
  exact hK _ _ (h v' w' h2 ⟨h3, h4⟩)

theorem append_string_at (t u ty e : TypeId) (i : TypeInfo) (ht : P.underlying t = some (.slice e)) (hu : P.underlying u = some .string) (hi : P.info? e = some i) (hz : i.zero = some (.int .u8 0)) (hsize : i.size = 1) (hby : i.bytes = 1)
    (v : Value) (n : Nat) (xs : List Value) (hown : w.ownsRow 0 e 1 v n xs) (s : ByteArray)
    (hlim : n + s.size ≤ 140737488355328) {v' : Value} {w' : World} (hr : (Builtin.append_ #[t, u] ty #[v, .string s]).run P w = .ok v' w') :
    v'.ownBlock = v.ownBlock ∨ ∃ g, v'.ownBlock = some g ∧ w.heap.size ≤ g := by
  have hxl : xs.length = n * i.size := by rw [hsize]; exact hown.1
  rcases hown.2 with ⟨rfl, rfl⟩ | ⟨g, cap, cur, rfl, hbg, hg, hnc, hcm, hcs, htake⟩
  · by_cases hm : s.size = 0
    · have h2 : (Builtin.append_ #[t, u] ty #[.slice none 0 0, .string s]).run P w = .ok (.slice none 0 0) w := by
        have hn : strCells s = [] := List.eq_nil_of_length_eq_zero (by rw [strCells_length]; exact hm)
        have hf := run_firstCells_string (P := P) w 1 s
        rw [hm] at hf
        simp [Builtin.append_, run_underlying ht, run_underlying hu, sizeOf, typeInfo, hi, hsize, Builtin.lenOf, hm, hf]
      rw [h2] at hr
      cases hr
      exact .inl rfl
    · have h2 := run_append_nil_string (P := P) w t u ty e i (.int .u8 0) ht hu hi hz s (by omega) (by omega) (by rw [hby]; omega)
      rw [h2] at hr
      cases hr
      exact .inr ⟨_, rfl, Nat.le_refl _⟩
  · by_cases hroom : n + s.size ≤ cap
    · have h2 := run_append_room_string (P := P) w t u ty e i ht hu hi hsize g n cap cur hg s hroom (by omega)
      rw [h2] at hr
      cases hr
      exact .inl rfl
    · have holds : ∀ j u, xs[j]? = some u → w.cell? ((⟨g, 0, none⟩ : Addr).add j) = some u := hown.cells (g := g) rfl
      have h2 := run_append_grow_string (P := P) w t u ty e i (.int .u8 0) ht hu hi hz ⟨g, 0, none⟩ n cap xs hxl holds s (by omega) (by omega) (by rw [hby]; exact growslice_fits (by omega) (by omega))
      rw [h2] at hr
      cases hr
      exact .inr ⟨_, rfl, Nat.le_refl _⟩

/-- 'append(b, s...)', s a string, at the operation, for the walk. -/
theorem wpList_append_string {ops : Array Oper} {rest : List Oper} {o : Oper} {a : Act} {Q : Exit → Act → World → Prop} (hgd : o.guard = none) (sl x : Operand) (t u : TypeId)
    (ho : o.op = .call { callee := .builtin .append, args := #[sl, x], argTypes := #[t, u] })
    (e : TypeId) (i : TypeInfo) (ht : P.underlying t = some (.slice e)) (hu : P.underlying u = some .string) (hi : P.info? e = some i) (hz : i.zero = some (.int .u8 0)) (hsize : i.size = 1) (hby : i.bytes = 1)
    (v : Value) (n : Nat) (xs : List Value) (hs : a.eval sl = v) (hown : w.ownsRow 0 e 1 v n xs) (s : ByteArray) (hx : a.eval x = .string s)
    (hlim : n + s.size ≤ 140737488355328)
    (h : ∀ v' w', w'.ownsRow 0 e 1 v' (n + s.size) (xs ++ strCells s) → Step w v w' v' → wpList P ops Q rest (a.put o.dst v') w') : wpList P ops Q (o :: rest) a w := by
  refine wpList_plain hgd fun K hK => ?_
  obtain ⟨v', w', hr, h2, h3, -⟩ := run_append_own_string (P := P) w 0 t u o.type e i ht hu hi hz hsize hby v n xs hown s (by unfold maxLen; omega) hlim (Nat.zero_le _)
  have h4 := append_string_at w t u o.type e i ht hu hi hz hsize hby v n xs hown s hlim hr
  unfold Oper.wp execOp
  simp only [ho, resolve, invoke, builtin, Sem.run_bind, Sem.run_pure, Result.andThen_ok, List.map_toArray, List.map_cons, List.map_nil, hs, hx, hr]
  exact hK _ _ (h v' w' h2 ⟨h3, h4⟩)
end
end Go.Proofs.Qxb6621649a
