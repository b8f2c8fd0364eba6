/-
  appendQuoted: what comes back owns what was owned and, behind it, the literal.
-/
import Derived.Test.Qxb6621649aBytes
import Derived.Test.Qxb6621649aQuotePlain
import Derived.Deep.RegionLaw
import Derived.Laws.BitsAllLaws
namespace Go.Proofs.Qxb6621649a
open Go Go.RowKit Go.Lib

/-- append onto an owned row, as one step of a region that draws. -/
theorem step_append {P : Program} {ops : Array Oper} {o : Oper} {a : Act} {w : World} {K : Act → World → Prop} {Q : Exit → Act → World → Prop} {E : Prop}
    (hgd : o.guard = none) (s x : Operand) (t : TypeId) (ho : o.op = .call { callee := .builtin .append, args := #[s, x], argTypes := #[t, t] })
    (e : TypeId) (i : TypeInfo) (ht : P.underlying t = some (.slice e)) (hi : P.info? e = some i) (hz : i.zero = some (.int .u8 0)) (hsize : i.size = 1) (hby : i.bytes = 1)
    (v : Value) (n : Nat) (xs : List Value) (hs : a.eval s = v) (hown : w.ownsRow 0 e 1 v n xs)
    (ad : Addr) (m c : Nat) (news : List Value) (hx : a.eval x = .slice (some ad) m c) (hl : news.length = m) (hnews : ∀ j u, news[j]? = some u → w.cell? (ad.add j) = some u) (h1 : ∀ u ∈ news, u.oneCell' = true)
    (hlim : n + m ≤ 140737488355328)
    (h : ∀ v' w', w'.ownsRow 0 e 1 v' (n + m) (xs ++ news) → Step w v w' v' → K (a.put o.dst v') w') :
    if Region.wanted o (yielded ops a.tmps) = true then Oper.wp P o a w K Q else E := by
  have hw : Region.wanted o (yielded ops a.tmps) = true := by simp [Region.wanted, hgd]
  rw [if_pos hw]
  obtain ⟨v', w', hr, h2, h3, -⟩ := run_append_own (P := P) w 0 t o.type e i (.int .u8 0) 1 1 ht hi hz hsize hby rfl (by decide) v n xs hown ad m c news (by rw [Nat.mul_one]; exact hl) hnews h1 (by unfold maxLen; omega) (by omega) (Nat.zero_le _)
  have h4 := append_at w t o.type e i ht hi hz hsize hby v n xs hown ad m c news hl hnews h1 hlim hr
  unfold Oper.wp execOp
  simp only [ho, resolve, invoke, builtin, Sem.run_bind, Sem.run_pure, Result.andThen_ok, List.map_toArray, List.map_cons, List.map_nil, hs, hx, hr]
  exact h v' w' h2 ⟨h3, h4⟩

/-- The cells of a literal row that has just been laid. -/
theorem new_cells (w : World) (l : List Value) (t : TypeId) : ∀ j u, l[j]? = some u → (w.alloc (.cells l.toArray t)).cell? ((⟨w.heap.size, 0, none⟩ : Addr).add j) = some u := by
  intro j u hj
  rw [Lib.add_plain, World.cell?_alloc_new]
  simpa using hj

theorem take_snoc (s : ByteArray) (k : Nat) (h : k < s.size) : s.data.toList.take (k + 1) = s.data.toList.take k ++ [s[k]] := by
  rw [List.take_succ_eq_append_getElem (by simpa using h)]; rfl

theorem own_next {s : ByteArray} {k : Nat} {c : UInt8} (HT : Hid (qpre (s.data.toList.take (k + 1)) = qpre (s.data.toList.take k) ++ esc c)) {E : List UInt8} (hE : Hid (esc c = E)) {n m : Nat} {xs news : List Value} {v : Value} {w : World}
    (h : w.ownsRow 0 5 1 v (n + (qpre (s.data.toList.take k)).length + m) (xs ++ (byteCells (qpre (s.data.toList.take k)) ++ news))) (hnews : news = byteCells E) (hm : m = E.length) :
    w.ownsRow 0 5 1 v (n + (qpre (s.data.toList.take (k + 1))).length) (xs ++ byteCells (qpre (s.data.toList.take (k + 1)))) := by
  rw [HT.out, byteCells_append, List.length_append, ← Nat.add_assoc, hE.out, ← hnews, ← hm]
  exact h

theorem take_all (s : ByteArray) : s.data.toList.take s.size = s.data.toList := List.take_of_length_le (by rw [Array.length_toList]; exact Nat.le_refl _)

/-- The sixteen digits. -/
def digits : ByteArray := ⟨#[48, 49, 50, 51, 52, 53, 54, 55, 56, 57, 97, 98, 99, 100, 101, 102]⟩

theorem digits_get : ∀ d : Fin 16, (digits[d.val]'(by have := d.2; exact this)).toNat = (hexd d.val).toNat := by decide

theorem index_digits (w : World) (d : Nat) (hd : d < 16) : (Instr.index 9 (.string digits) (.int .u8 (d : Int))).run Try.prog w = .ok (.int .u8 ((hexd d).toNat : Int)) w := by
  have hs : digits.size = 16 := rfl
  rw [run_index_string w 9 digits .u8 d Try.underlying9, dif_pos ⟨by omega, by rw [hs]; omega⟩]
  have h := digits_get ⟨d, hd⟩
  simp only [Int.toNat_natCast] at h ⊢
  exact congrArg (fun t : Nat => Result.ok (Value.int .u8 (t : Int)) w) h

theorem and15 (d : Nat) (hd : d < 256) : bits .and .u8 (d : Int) 15 = ((d % 16 : Nat) : Int) := by
  have h := u8_and_nat d 15 hd (by decide)
  have h2 : d &&& 15 = d % 16 := Nat.and_two_pow_sub_one_eq_mod d 4
  rw [h2] at h
  exact h

theorem one_cells {l : List Value} (h : l.all (·.oneCell') = true) : ∀ u ∈ l, u.oneCell' = true := fun u hu => List.all_eq_true.1 h u hu

theorem byteCells_of (l : List UInt8) : byteCells l = l.map fun b => Value.int .u8 (b.toNat : Int) := rfl

set_option maxHeartbeats 4000000 in
set_option maxRecDepth 100000 in
theorem quote_any (n : Nat) (s : ByteArray) (sv : Value) (xs : List Value) (w : World) (hown : w.ownsRow 0 5 1 sv n xs) (hs : s.size ≤ 1048576) (hn : n ≤ 1048576) :
    Calls Try.prog 14 #[sv, .string s] w fun e w' => Put w sv n xs (quote s.data.toList) e w' := by
  obtain ⟨i0, hi, hz0, hz1, hz2⟩ := info_parts infoByte
  have hown0 := hown.alloc (.cells #[.int .u8 34] 5)
  have hnc := new_cells w [.int .u8 34] 5
  go_enter Try.func14, Try.ntmps14
  go_wp2_with (at_builtin; refine wpList_append _ rfl _ _ 22 rfl 5 i0 Try.underlying22 hi hz0 hz1 hz2 _ _ _ rfl hown0 ⟨w.heap.size, 0, none⟩ 1 1 [Value.int .u8 34] rfl rfl hnc ?c2 ?c4 ?_)
  case c2 => exact one_cells rfl
  case c4 => omega
  intro v1 w1 own1 st1
  have HO1 := hid own1
  have HS1 := hid ((Step.of_below sv ((Below.refl _ w).alloc (Nat.le_refl _) (.cells #[.int .u8 34] 5))).trans st1)
  clear hown hown0 hnc own1 st1
  go_wp2_with fail
  go_loopw [0, 5] (fun b i wr => ∃ k : Nat, k ≤ s.size ∧ i = .int .i64 k ∧ wr.ownsRow 0 5 1 b (n + (qpre (s.data.toList.take k)).length) (xs ++ byteCells (qpre (s.data.toList.take k))) ∧ Step w sv wr b) (fun _ i _ => s.size - (RowKit.intOf i).toNat)
  case atStart => exact ⟨0, Nat.zero_le _, rfl, HO1.out, HS1.out⟩
  case round =>
    obtain ⟨k, hk, rfl, own2, st2⟩ := hrel
    have HO2 := hid own2
    have HS2 := hid st2
    clear own2 st2 HO1 HS1
    have hlen : (qpre (s.data.toList.take k)).length ≤ 4 * k + 1 := by
      have := flat_len (s.data.toList.take k)
      have hll : (s.data.toList.take k).length ≤ k := List.length_take_le _ _
      simp only [qpre, List.length_cons]; omega
    by_cases hlt : k < s.size
    · obtain ⟨c, hc⟩ : ∃ c, s[k] = c := ⟨_, rfl⟩
      have HT := hid (show qpre (s.data.toList.take (k + 1)) = qpre (s.data.toList.take k) ++ esc c by rw [take_snoc s k hlt, qpre_snoc, hc])
      obtain ⟨x, hx⟩ : ∃ x : Int, (c.toNat : Int) = x := ⟨_, rfl⟩
      have hx0 : 0 ≤ x := by omega
      have hx1 : x ≤ 255 := by have := c.toNat_lt; omega
      by_cases e34 : x = 34
      · have b1 : (x == 34) = true := by simpa using e34
        have hE := hid (esc_quote (c := c) (by omega))
        subst e34
        go_wp2_with (at_builtin; refine wpList_append _ rfl _ _ 22 rfl 5 i0 Try.underlying22 hi hz0 hz1 hz2 _ _ _ rfl (HO2.out.alloc _) ⟨wr.heap.size, 0, none⟩ 2 2 [Value.int .u8 92, Value.int .u8 34] rfl rfl (new_cells _ _ _) ?c2 ?c4 ?_)
        case c2 => exact one_cells rfl
        case c4 => omega
        intro v2 w2 own3 st3
        have HO3 := hid (own_next HT hE own3 (by rfl) rfl)
        have HS3 := hid ((HS2.out.trans (Step.of_below u0 ((Below.refl _ wr).alloc (Nat.le_refl _) _))).trans st3)
        clear own3 st3
        go_wp2
        exact ⟨⟨k + 1, by omega, by go_num, HO3.out, HS3.out⟩, by simp [RowKit.intOf]; omega⟩
      have b34 : (x == 34) = false := by simpa using e34
      by_cases e92 : x = 92
      · have b1 : (x == 92) = true := by simpa using e92
        have hE := hid (esc_back (c := c) (by omega))
        subst e92
        go_wp2_with (at_builtin; refine wpList_append _ rfl _ _ 22 rfl 5 i0 Try.underlying22 hi hz0 hz1 hz2 _ _ _ rfl (HO2.out.alloc _) ⟨wr.heap.size, 0, none⟩ 2 2 [Value.int .u8 92, Value.int .u8 92] rfl rfl (new_cells _ _ _) ?c2 ?c4 ?_)
        case c2 => exact one_cells rfl
        case c4 => omega
        intro v2 w2 own3 st3
        have HO3 := hid (own_next HT hE own3 (by rfl) rfl)
        have HS3 := hid ((HS2.out.trans (Step.of_below u0 ((Below.refl _ wr).alloc (Nat.le_refl _) _))).trans st3)
        clear own3 st3
        go_wp2
        exact ⟨⟨k + 1, by omega, by go_num, HO3.out, HS3.out⟩, by simp [RowKit.intOf]; omega⟩
      have b92 : (x == 92) = false := by simpa using e92
      by_cases e10 : x = 10
      · have b1 : (x == 10) = true := by simpa using e10
        have hE := hid (esc_nl (c := c) (by omega))
        subst e10
        go_wp2_with (at_builtin; refine wpList_append_string _ rfl _ _ 22 9 rfl 5 i0 Try.underlying22 Try.underlying9 hi hz0 hz1 hz2 _ _ _ rfl HO2.out ⟨#[92, 110]⟩ rfl ?c4 ?_)
        case c4 => have : (⟨#[92, 110]⟩ : ByteArray).size = 2 := rfl; omega
        intro v2 w2 own3 st3
        have HO3 := hid (own_next HT hE own3 (by rfl) rfl)
        have HS3 := hid (HS2.out.trans st3)
        clear own3 st3
        go_wp2
        exact ⟨⟨k + 1, by omega, by go_num, HO3.out, HS3.out⟩, by simp [RowKit.intOf]; omega⟩
      have b10 : (x == 10) = false := by simpa using e10
      by_cases e9 : x = 9
      · have b1 : (x == 9) = true := by simpa using e9
        have hE := hid (esc_tab (c := c) (by omega))
        subst e9
        go_wp2_with (at_builtin; refine wpList_append_string _ rfl _ _ 22 9 rfl 5 i0 Try.underlying22 Try.underlying9 hi hz0 hz1 hz2 _ _ _ rfl HO2.out ⟨#[92, 116]⟩ rfl ?c4 ?_)
        case c4 => have : (⟨#[92, 116]⟩ : ByteArray).size = 2 := rfl; omega
        intro v2 w2 own3 st3
        have HO3 := hid (own_next HT hE own3 (by rfl) rfl)
        have HS3 := hid (HS2.out.trans st3)
        clear own3 st3
        go_wp2
        exact ⟨⟨k + 1, by omega, by go_num, HO3.out, HS3.out⟩, by simp [RowKit.intOf]; omega⟩
      have b9 : (x == 9) = false := by simpa using e9
      by_cases e32 : x < 32
      · have b1 : decide (x < 32) = true := by simpa using e32
        have hE := hid (esc_hex (c := c) (by omega) (by omega) (by omega))
        go_wp2_with fail
        have hq : x / 16 = ((c.toNat / 16 : Nat) : Int) := by omega
        have ha : bits .and .u8 x 15 = ((c.toNat % 16 : Nat) : Int) := by rw [← hx]; exact and15 _ (by omega)
        have hx1 := fun wx => index_digits wx (c.toNat / 16) (by omega)
        have hx2 := fun wx => index_digits wx (c.toNat % 16) (by omega)
        unfold digits at hx1 hx2
        generalize c.toNat / 16 = d1 at *
        generalize c.toNat % 16 = d2 at *
        have hb := hid (((Below.refl wr.heap.size wr).alloc (Nat.le_refl _) (.cells #[.int .u8 92, .int .u8 120, .int .u8 ((hexd d1).toNat : Int), .int .u8 ((hexd d2).toNat : Int)] 5)).drew)
        have HO4 := hid (ownsRow_below HO2.out hb.out)
        have HN4 := hid (new_cells wr [.int .u8 92, .int .u8 120, .int .u8 ((hexd d1).toNat : Int), .int .u8 ((hexd d2).toNat : Int)] 5)
        have HC4 := hid (byteCells_one [92, 120, hexd d1, hexd d2])
        have h4 : n + (qpre (s.data.toList.take k)).length + 4 ≤ 140737488355328 := by omega
        go_region_law (refine step_append rfl (.tmp 47) (.tmp 54) 22 rfl 5 i0 Try.underlying22 hi hz0 hz1 hz2 u0 _ _ (by simp [Act.eval]) HO4.out ⟨wr.heap.size, 0, none⟩ 4 4 [.int .u8 92, .int .u8 120, .int .u8 ((hexd d1).toNat : Int), .int .u8 ((hexd d2).toNat : Int)] (by simp [Act.eval]) rfl HN4.out HC4.out h4 ?_; intro v2 w2 own3 st3)
        all_goals (
          have HO3 := hid (own_next HT hE (by rw [← List.append_assoc]; exact own3) rfl rfl)
          have HS3 := hid ((HS2.out.trans (Step.of_below u0 hb.out)).trans st3)
          clear own3 st3
          go_wp2
          exact ⟨⟨k + 1, by omega, by go_num, HO3.out, HS3.out⟩, by simp [RowKit.intOf]; omega⟩)
      have b32 : decide (x < 32) = false := by simpa using e32
      by_cases e126 : 126 < x
      · have b126 : decide (126 < x) = true := by simpa using e126
        have hE := hid (esc_hex (c := c) (by omega) (by omega) (by omega))
        go_wp2_with fail
        have hq : x / 16 = ((c.toNat / 16 : Nat) : Int) := by omega
        have ha : bits .and .u8 x 15 = ((c.toNat % 16 : Nat) : Int) := by rw [← hx]; exact and15 _ (by omega)
        have hx1 := fun wx => index_digits wx (c.toNat / 16) (by omega)
        have hx2 := fun wx => index_digits wx (c.toNat % 16) (by omega)
        unfold digits at hx1 hx2
        generalize c.toNat / 16 = d1 at *
        generalize c.toNat % 16 = d2 at *
        have hb := hid (((Below.refl wr.heap.size wr).alloc (Nat.le_refl _) (.cells #[.int .u8 92, .int .u8 120, .int .u8 ((hexd d1).toNat : Int), .int .u8 ((hexd d2).toNat : Int)] 5)).drew)
        have HO4 := hid (ownsRow_below HO2.out hb.out)
        have HN4 := hid (new_cells wr [.int .u8 92, .int .u8 120, .int .u8 ((hexd d1).toNat : Int), .int .u8 ((hexd d2).toNat : Int)] 5)
        have HC4 := hid (byteCells_one [92, 120, hexd d1, hexd d2])
        have h4 : n + (qpre (s.data.toList.take k)).length + 4 ≤ 140737488355328 := by omega
        go_region_law (refine step_append rfl (.tmp 47) (.tmp 54) 22 rfl 5 i0 Try.underlying22 hi hz0 hz1 hz2 u0 _ _ (by simp [Act.eval]) HO4.out ⟨wr.heap.size, 0, none⟩ 4 4 [.int .u8 92, .int .u8 120, .int .u8 ((hexd d1).toNat : Int), .int .u8 ((hexd d2).toNat : Int)] (by simp [Act.eval]) rfl HN4.out HC4.out h4 ?_; intro v2 w2 own3 st3)
        all_goals (
          have HO3 := hid (own_next HT hE (by rw [← List.append_assoc]; exact own3) rfl rfl)
          have HS3 := hid ((HS2.out.trans (Step.of_below u0 hb.out)).trans st3)
          clear own3 st3
          go_wp2
          exact ⟨⟨k + 1, by omega, by go_num, HO3.out, HS3.out⟩, by simp [RowKit.intOf]; omega⟩)
      · have b126 : decide (126 < x) = false := by simpa using e126
        have hE := hid (esc_plain (c := c) (by omega) (by omega) (by omega) (by omega))
        go_wp2_with (at_builtin; refine wpList_append _ rfl _ _ 22 rfl 5 i0 Try.underlying22 hi hz0 hz1 hz2 _ _ _ rfl (HO2.out.alloc _) ⟨wr.heap.size, 0, none⟩ 1 1 [Value.int .u8 x] rfl rfl (new_cells _ _ _) ?c2 ?c4 ?_)
        case c2 => rfl
        case c4 => omega
        intro v2 w2 own3 st3
        have HO3 := hid (own_next HT hE own3 (by rw [← hx]; rfl) rfl)
        have HS3 := hid ((HS2.out.trans (Step.of_below u0 ((Below.refl _ wr).alloc (Nat.le_refl _) _))).trans st3)
        clear own3 st3
        go_wp2
        exact ⟨⟨k + 1, by omega, by go_num, HO3.out, HS3.out⟩, by simp [RowKit.intOf]; omega⟩
    · obtain rfl : k = s.size := by omega
      go_wp2_with (at_builtin; refine wpList_append _ rfl _ _ 22 rfl 5 i0 Try.underlying22 hi hz0 hz1 hz2 _ _ _ rfl (HO2.out.alloc _) ⟨wr.heap.size, 0, none⟩ 1 1 [Value.int .u8 34] rfl rfl (new_cells _ _ _) ?c2 ?c4 ?_)
      case c2 => exact one_cells rfl
      case c4 => omega
      intro v2 w2 own3 st3
      rw [take_all] at own3
      have HO3 := hid own3
      have HS3 := hid ((HS2.out.trans (Step.of_below u0 ((Below.refl _ wr).alloc (Nat.le_refl _) _))).trans st3)
      clear own3 st3
      go_wp2
      go_ret
      refine Put.mk _ v2 rfl ?_ HS3.out
      have h := HO3.out
      rw [quote, byteCells_append, List.length_append, ← Nat.add_assoc]
      exact h
end Go.Proofs.Qxb6621649a
