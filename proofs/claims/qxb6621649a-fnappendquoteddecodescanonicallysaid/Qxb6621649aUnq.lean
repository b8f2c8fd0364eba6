/-
  The reader of literals: zzAsmB1HexLower, zzAsmB1Unquote, zzAsmB1BytesAreString.
-/
import Derived.Test.Qxb6621649aZz
import Derived.Test.Qxb6621649aUnqPlain
namespace Go.Proofs.Qxb6621649a
open Go Go.RowKit Go.Lib

theorem hexLower (d : Nat) (hd : d < 16) (w : World) : Calls Try.prog 15 #[.int .u8 ((hexd d).toNat : Int)] w fun e w' => e = .returned (.tuple #[.int .u8 (d : Int), .bool true]) ∧ w' = w := by
  have h := hexd_toNat d hd
  obtain ⟨z, hz⟩ : ∃ z : Int, ((hexd d).toNat : Int) = z := ⟨_, rfl⟩
  rw [hz]
  by_cases h10 : d < 10
  · rw [if_pos h10] at h
    have h0 : z = (d : Int) + 48 := by omega
    clear h hz
    subst h0
    have d1 : decide (48 ≤ (d : Int) + 48) = true := by simp; omega
    have d2 : decide ((d : Int) + 48 ≤ 57) = true := by simp; omega
    go_enter Try.func15, Try.ntmps15
    go_wp2
    go_ret2
    exact ⟨rfl, rfl⟩
  · rw [if_neg h10] at h
    have h0 : z = (d : Int) + 87 := by omega
    clear h hz
    subst h0
    have d1 : decide (48 ≤ (d : Int) + 87) = true := by simp; omega
    have d2 : decide ((d : Int) + 87 ≤ 57) = false := by simp; omega
    have d3 : decide (97 ≤ (d : Int) + 87) = true := by simp; omega
    have d4 : decide ((d : Int) + 87 ≤ 102) = true := by simp; omega
    go_enter Try.func15, Try.ntmps15
    go_wp2
    go_ret2
    exact ⟨by go_num, rfl⟩

/-- A literal's body read: the bytes, in a row of the call's own. -/
def Unq (w : World) (S : List UInt8) (e : Ending) (w' : World) : Prop :=
  ∃ v', e = .returned (.tuple #[v', .bool true]) ∧ w'.ownsRow 0 5 1 v' S.length (byteCells S) ∧ Below w.heap.size w w'
theorem Unq.mk {w : World} {S : List UInt8} {w' : World} (v v' : Value) (hv : v = .tuple #[v', .bool true]) (h : w'.ownsRow 0 5 1 v' S.length (byteCells S)) (hb : Below w.heap.size w w') : Unq w S (.returned v) w' := ⟨v', by rw [hv], h, hb⟩

theorem out_next {w wr w2 : World} {u v2 : Value} {o : Obj} (hb : Below w.heap.size w wr) (hv : ∀ g, u.ownBlock = some g → w.heap.size ≤ g) (st : Step (wr.alloc o) u w2 v2) : Below w.heap.size w w2 ∧ ∀ g, v2.ownBlock = some g → w.heap.size ≤ g := by
  have ha : Below w.heap.size w (wr.alloc o) := hb.alloc hb.size o
  refine ⟨ha.trans (st.below ha.size hv), fun g hg => ?_⟩
  rcases st.at_ with e | ⟨g', e, hg'⟩
  · rw [e] at hg; exact hv g hg
  · rw [e] at hg; cases hg; exact Nat.le_trans ha.size hg'

theorem out_own {S : List UInt8} {k : Nat} {c : UInt8} (HT : Hid (S.take (k + 1) = S.take k ++ [c])) {v : Value} {w : World} {x : Int} (h : w.ownsRow 0 5 1 v (k + 1) (byteCells (S.take k) ++ [.int .u8 x])) (hx : x = (c.toNat : Int)) :
    w.ownsRow 0 5 1 v (k + 1) (byteCells (S.take (k + 1))) := by
  rw [HT.out, byteCells_append]
  subst hx
  exact h

set_option maxHeartbeats 4000000 in
set_option maxRecDepth 100000 in
theorem unquote (S : List UInt8) (g off m cap : Nat) (w : World) (hS : S.length ≤ 1048576) (hm : (S.flatMap esc).length = m) (hg : g < w.heap.size)
    (hc : ∀ k (h : k < S.length) t (ht : t < (esc S[k]).length), w.cell? ⟨g, off + (pos S k + t), none⟩ = some (.int .u8 ((esc S[k])[t].toNat : Int))) :
    Calls Try.prog 10 #[.slice (some ⟨g, off, none⟩) m cap] w fun e w' => Unq w S e w' := by
  obtain ⟨i0, hi, hz0, hz1, hz2⟩ := info_parts infoByte
  have hm4 : m ≤ 4 * S.length := by have := (flat_len S).2; omega
  obtain ⟨g6, w6, hmk, own6, b6, hg6, lt6⟩ := room m (by omega) w
  have HC := hid hc
  have HO6 := hid own6
  have HB6 := hid b6
  have HG6 := hid hg6
  have HM := hid hm
  clear hc own6 b6 hg6 lt6 hm
  go_enter Try.func10, Try.ntmps10
  go_wp2_with fail
  go_loopw [4, 5] (fun b i wr => ∃ k : Nat, k ≤ S.length ∧ i = .int .i64 (pos S k : Nat) ∧ wr.ownsRow 0 5 1 b k (byteCells (S.take k)) ∧ Below w.heap.size w wr ∧ ∀ g, b.ownBlock = some g → w.heap.size ≤ g) (fun _ i _ => m - (RowKit.intOf i).toNat)
  case atStart => exact ⟨0, Nat.zero_le _, by rw [pos_zero]; rfl, HO6.out, HB6.out, fun g hg => by cases hg; exact Nat.le_of_eq HG6.out.symm⟩
  case round =>
    obtain ⟨k, hk, rfl, own2, b2, gv2⟩ := hrel
    have HO2 := hid own2
    have HB := hid b2
    have HV := hid gv2
    clear own2 b2 gv2 HO6 HB6 HG6 hmk
    by_cases hlt : k < S.length
    · obtain ⟨c, hcc⟩ : ∃ c, S[k] = c := ⟨_, rfl⟩
      have HT := hid (show S.take (k + 1) = S.take k ++ [c] by rw [List.take_succ_eq_append_getElem hlt, hcc])
      have hps := pos_succ S k hlt
      have hpl := pos_le S (k + 1)
      rw [HM.out] at hpl
      have HK := hid (show ∀ L, esc c = L → ∀ t (ht : t < L.length), wr.cell? ⟨g, off + (pos S k + t), none⟩ = some (.int .u8 (L[t].toNat : Int)) by
        intro L hL t ht
        subst hL
        subst hcc
        rw [HB.out.cell (p := ⟨g, off + (pos S k + t), none⟩) hg]
        exact HC.out k hlt t ht)
      rw [hcc] at hps
      obtain ⟨p, hp⟩ : ∃ p, pos S k = p := ⟨_, rfl⟩
      rw [hp] at hps HK
      rw [hp]
      clear hp hcc HC
      obtain ⟨x, hx⟩ : ∃ x : Int, (c.toNat : Int) = x := ⟨_, rfl⟩
      have hx0 : 0 ≤ x := by omega
      have hx1 : x ≤ 255 := by have := c.toNat_lt; omega
      have hpos := hid hps
      have hplh := hid hpl
      clear hps hpl
      by_cases e34 : x = 34
      · have hE := hid (esc_quote (c := c) (by omega))
        have hpm : p + 2 ≤ m := by have := hplh.out; rw [hpos.out, hE.out] at this; exact this
        have c0 : wr.cell? ⟨g, off + p, none⟩ = some (.int .u8 92) := HK.out _ hE.out 0 (by decide)
        have c1 : wr.cell? ⟨g, off + (p + 1), none⟩ = some (.int .u8 34) := HK.out _ hE.out 1 (by decide)
        have t1 : decide ((m : Int) ≤ (p : Int) + 1) = false := by simp; omega
        go_wp2_with (at_builtin; refine wpList_append _ rfl _ _ 22 rfl 5 i0 Try.underlying22 hi hz0 hz1 hz2 _ _ _ rfl (HO2.out.alloc _) ⟨wr.heap.size, 0, none⟩ 1 1 [Value.int .u8 34] rfl rfl (new_cells _ _ _) ?c2 ?c4 ?_)
        case c2 => exact one_cells rfl
        case c4 => omega
        intro v2 w2 own3 st3
        have HO3 := hid (out_own HT own3 (by omega))
        have HN3 := hid (out_next HB.out HV.out st3)
        have HP := hid (show pos S (k + 1) = p + 2 by rw [hpos.out, hE.out]; rfl)
        clear own3 st3
        go_wp2
        exact ⟨⟨k + 1, by omega, by rw [HP.out]; go_num, HO3.out, HN3.out.1, HN3.out.2⟩, by simp [RowKit.intOf]; omega⟩
      by_cases e92 : x = 92
      · have hE := hid (esc_back (c := c) (by omega))
        have hpm : p + 2 ≤ m := by have := hplh.out; rw [hpos.out, hE.out] at this; exact this
        have c0 : wr.cell? ⟨g, off + p, none⟩ = some (.int .u8 92) := HK.out _ hE.out 0 (by decide)
        have c1 : wr.cell? ⟨g, off + (p + 1), none⟩ = some (.int .u8 92) := HK.out _ hE.out 1 (by decide)
        have t1 : decide ((m : Int) ≤ (p : Int) + 1) = false := by simp; omega
        go_wp2_with (at_builtin; refine wpList_append _ rfl _ _ 22 rfl 5 i0 Try.underlying22 hi hz0 hz1 hz2 _ _ _ rfl (HO2.out.alloc _) ⟨wr.heap.size, 0, none⟩ 1 1 [Value.int .u8 92] rfl rfl (new_cells _ _ _) ?c2 ?c4 ?_)
        case c2 => exact one_cells rfl
        case c4 => omega
        intro v2 w2 own3 st3
        have HO3 := hid (out_own HT own3 (by omega))
        have HN3 := hid (out_next HB.out HV.out st3)
        have HP := hid (show pos S (k + 1) = p + 2 by rw [hpos.out, hE.out]; rfl)
        clear own3 st3
        go_wp2
        exact ⟨⟨k + 1, by omega, by rw [HP.out]; go_num, HO3.out, HN3.out.1, HN3.out.2⟩, by simp [RowKit.intOf]; omega⟩
      by_cases e10 : x = 10
      · have hE := hid (esc_nl (c := c) (by omega))
        have hpm : p + 2 ≤ m := by have := hplh.out; rw [hpos.out, hE.out] at this; exact this
        have c0 : wr.cell? ⟨g, off + p, none⟩ = some (.int .u8 92) := HK.out _ hE.out 0 (by decide)
        have c1 : wr.cell? ⟨g, off + (p + 1), none⟩ = some (.int .u8 110) := HK.out _ hE.out 1 (by decide)
        have t1 : decide ((m : Int) ≤ (p : Int) + 1) = false := by simp; omega
        go_wp2_with (at_builtin; refine wpList_append _ rfl _ _ 22 rfl 5 i0 Try.underlying22 hi hz0 hz1 hz2 _ _ _ rfl (HO2.out.alloc _) ⟨wr.heap.size, 0, none⟩ 1 1 [Value.int .u8 10] rfl rfl (new_cells _ _ _) ?c2 ?c4 ?_)
        case c2 => exact one_cells rfl
        case c4 => omega
        intro v2 w2 own3 st3
        have HO3 := hid (out_own HT own3 (by omega))
        have HN3 := hid (out_next HB.out HV.out st3)
        have HP := hid (show pos S (k + 1) = p + 2 by rw [hpos.out, hE.out]; rfl)
        clear own3 st3
        go_wp2
        exact ⟨⟨k + 1, by omega, by rw [HP.out]; go_num, HO3.out, HN3.out.1, HN3.out.2⟩, by simp [RowKit.intOf]; omega⟩
      by_cases e9 : x = 9
      · have hE := hid (esc_tab (c := c) (by omega))
        have hpm : p + 2 ≤ m := by have := hplh.out; rw [hpos.out, hE.out] at this; exact this
        have c0 : wr.cell? ⟨g, off + p, none⟩ = some (.int .u8 92) := HK.out _ hE.out 0 (by decide)
        have c1 : wr.cell? ⟨g, off + (p + 1), none⟩ = some (.int .u8 116) := HK.out _ hE.out 1 (by decide)
        have t1 : decide ((m : Int) ≤ (p : Int) + 1) = false := by simp; omega
        go_wp2_with (at_builtin; refine wpList_append _ rfl _ _ 22 rfl 5 i0 Try.underlying22 hi hz0 hz1 hz2 _ _ _ rfl (HO2.out.alloc _) ⟨wr.heap.size, 0, none⟩ 1 1 [Value.int .u8 9] rfl rfl (new_cells _ _ _) ?c2 ?c4 ?_)
        case c2 => exact one_cells rfl
        case c4 => omega
        intro v2 w2 own3 st3
        have HO3 := hid (out_own HT own3 (by omega))
        have HN3 := hid (out_next HB.out HV.out st3)
        have HP := hid (show pos S (k + 1) = p + 2 by rw [hpos.out, hE.out]; rfl)
        clear own3 st3
        go_wp2
        exact ⟨⟨k + 1, by omega, by rw [HP.out]; go_num, HO3.out, HN3.out.1, HN3.out.2⟩, by simp [RowKit.intOf]; omega⟩
      have n10 : (x == 10) = false := by simpa using e10
      have n9 : (x == 9) = false := by simpa using e9
      by_cases e32 : x < 32
      · have q1 : decide (32 ≤ x) = false := by simp; omega
        have hE := hid (esc_hex (c := c) (by omega) (by omega) (by omega))
        have hor : bits .or .u8 (((c.toNat / 16 : Nat) : Int) * 16) ((c.toNat % 16 : Nat) : Int) = x := by
          have h1 := u8_or_nat (c.toNat / 16 * 16) (c.toNat % 16) (by omega) (by omega)
          have h2 := or16 ⟨c.toNat / 16, by omega⟩ ⟨c.toNat % 16, by omega⟩
          simp only at h2
          rw [h2] at h1
          have h3 : ((c.toNat / 16 : Nat) : Int) * 16 = ((c.toNat / 16 * 16 : Nat) : Int) := by omega
          rw [h3, h1]; omega
        have hd1 : c.toNat / 16 < 16 := by omega
        have hd2 : c.toNat % 16 < 16 := by omega
        generalize c.toNat / 16 = f1 at *
        generalize c.toNat % 16 = f2 at *
        have hpm : p + 4 ≤ m := by have := hplh.out; rw [hpos.out, hE.out] at this; exact this
        have c0 : wr.cell? ⟨g, off + p, none⟩ = some (.int .u8 92) := HK.out _ hE.out 0 (by simp)
        have c1 : wr.cell? ⟨g, off + (p + 1), none⟩ = some (.int .u8 120) := HK.out _ hE.out 1 (by simp)
        have c2 : wr.cell? ⟨g, off + (p + 2), none⟩ = some (.int .u8 ((hexd f1).toNat : Int)) := HK.out _ hE.out 2 (by simp)
        have c3 : wr.cell? ⟨g, off + (p + 3), none⟩ = some (.int .u8 ((hexd f2).toNat : Int)) := HK.out _ hE.out 3 (by simp)
        have t1 : decide ((m : Int) ≤ (p : Int) + 1) = false := by simp; omega
        have t3 : decide ((m : Int) ≤ (p : Int) + 3) = false := by simp; omega
        go_wp2_with fail
        refine (hexLower f1 hd1 _).mono ?_
        rintro e w' ⟨rfl, rfl⟩
        go_wp2_with fail
        refine (hexLower f2 hd2 _).mono ?_
        rintro e w' ⟨rfl, rfl⟩
        go_wp2_with (at_builtin; refine wpList_append _ rfl _ _ 22 rfl 5 i0 Try.underlying22 hi hz0 hz1 hz2 _ _ _ rfl (HO2.out.alloc _) ⟨w'.heap.size, 0, none⟩ 1 1 [Value.int .u8 x] rfl rfl (new_cells _ _ _) ?c2 ?c4 ?_)
        case c2 => first | rfl | exact one_cells rfl
        case c4 => omega
        intro v2 w2 own3 st3
        have HO3 := hid (out_own HT own3 hx.symm)
        have HN3 := hid (out_next HB.out HV.out st3)
        have HP := hid (show pos S (k + 1) = p + 4 by rw [hpos.out, hE.out]; rfl)
        clear own3 st3
        go_wp2
        exact ⟨⟨k + 1, by omega, by rw [HP.out]; go_num, HO3.out, HN3.out.1, HN3.out.2⟩, by simp [RowKit.intOf]; omega⟩
      by_cases e126 : 126 < x
      · have q1 : decide (32 ≤ x) = true := by simp; omega
        have q2 : decide (x ≤ 126) = false := by simp; omega
        have hE := hid (esc_hex (c := c) (by omega) (by omega) (by omega))
        have hor : bits .or .u8 (((c.toNat / 16 : Nat) : Int) * 16) ((c.toNat % 16 : Nat) : Int) = x := by
          have h1 := u8_or_nat (c.toNat / 16 * 16) (c.toNat % 16) (by omega) (by omega)
          have h2 := or16 ⟨c.toNat / 16, by omega⟩ ⟨c.toNat % 16, by omega⟩
          simp only at h2
          rw [h2] at h1
          have h3 : ((c.toNat / 16 : Nat) : Int) * 16 = ((c.toNat / 16 * 16 : Nat) : Int) := by omega
          rw [h3, h1]; omega
        have hd1 : c.toNat / 16 < 16 := by omega
        have hd2 : c.toNat % 16 < 16 := by omega
        generalize c.toNat / 16 = f1 at *
        generalize c.toNat % 16 = f2 at *
        have hpm : p + 4 ≤ m := by have := hplh.out; rw [hpos.out, hE.out] at this; exact this
        have c0 : wr.cell? ⟨g, off + p, none⟩ = some (.int .u8 92) := HK.out _ hE.out 0 (by simp)
        have c1 : wr.cell? ⟨g, off + (p + 1), none⟩ = some (.int .u8 120) := HK.out _ hE.out 1 (by simp)
        have c2 : wr.cell? ⟨g, off + (p + 2), none⟩ = some (.int .u8 ((hexd f1).toNat : Int)) := HK.out _ hE.out 2 (by simp)
        have c3 : wr.cell? ⟨g, off + (p + 3), none⟩ = some (.int .u8 ((hexd f2).toNat : Int)) := HK.out _ hE.out 3 (by simp)
        have t1 : decide ((m : Int) ≤ (p : Int) + 1) = false := by simp; omega
        have t3 : decide ((m : Int) ≤ (p : Int) + 3) = false := by simp; omega
        go_wp2_with fail
        refine (hexLower f1 hd1 _).mono ?_
        rintro e w' ⟨rfl, rfl⟩
        go_wp2_with fail
        refine (hexLower f2 hd2 _).mono ?_
        rintro e w' ⟨rfl, rfl⟩
        go_wp2_with (at_builtin; refine wpList_append _ rfl _ _ 22 rfl 5 i0 Try.underlying22 hi hz0 hz1 hz2 _ _ _ rfl (HO2.out.alloc _) ⟨w'.heap.size, 0, none⟩ 1 1 [Value.int .u8 x] rfl rfl (new_cells _ _ _) ?c2 ?c4 ?_)
        case c2 => first | rfl | exact one_cells rfl
        case c4 => omega
        intro v2 w2 own3 st3
        have HO3 := hid (out_own HT own3 hx.symm)
        have HN3 := hid (out_next HB.out HV.out st3)
        have HP := hid (show pos S (k + 1) = p + 4 by rw [hpos.out, hE.out]; rfl)
        clear own3 st3
        go_wp2
        exact ⟨⟨k + 1, by omega, by rw [HP.out]; go_num, HO3.out, HN3.out.1, HN3.out.2⟩, by simp [RowKit.intOf]; omega⟩
      · have hE := hid (esc_plain (c := c) (by omega) (by omega) (by omega) (by omega))
        have hpm : p + 1 ≤ m := by have := hplh.out; rw [hpos.out, hE.out] at this; exact this
        have c0 : wr.cell? ⟨g, off + p, none⟩ = some (.int .u8 x) := by rw [← hx]; exact HK.out _ hE.out 0 (by simp)
        have q1 : decide (x < 32) = false := by simp; omega
        have q2 : decide (126 < x) = false := by simp; omega
        have q3 : (x == 34) = false := by simpa using e34
        have q4 : (x == 92) = false := by simpa using e92
        go_wp2_with (at_builtin; refine wpList_append _ rfl _ _ 22 rfl 5 i0 Try.underlying22 hi hz0 hz1 hz2 _ _ _ rfl (HO2.out.alloc _) ⟨wr.heap.size, 0, none⟩ 1 1 [Value.int .u8 x] rfl rfl (new_cells _ _ _) ?c2 ?c4 ?_)
        case c2 => first | rfl | exact one_cells rfl
        case c4 => omega
        intro v2 w2 own3 st3
        have HO3 := hid (out_own HT own3 hx.symm)
        have HN3 := hid (out_next HB.out HV.out st3)
        have HP := hid (show pos S (k + 1) = p + 1 by rw [hpos.out, hE.out]; rfl)
        clear own3 st3
        go_wp2
        exact ⟨⟨k + 1, by omega, by rw [HP.out]; go_num, HO3.out, HN3.out.1, HN3.out.2⟩, by simp [RowKit.intOf]; omega⟩
    · obtain rfl : k = S.length := by omega
      rw [pos_all, HM.out]
      go_wp2
      go_ret2
      refine Unq.mk _ u4 rfl ?_ HB.out
      have h := HO2.out
      rw [List.take_length] at h
      exact h
end Go.Proofs.Qxb6621649a
