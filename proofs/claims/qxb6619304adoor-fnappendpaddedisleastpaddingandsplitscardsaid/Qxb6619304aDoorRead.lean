/-
  zzPadWraps, zzIsPadded, zzShortlex: they only read.
-/
import Derived.Test.Qxb6619304aDoorPad
import Derived.Deep.QuietTactic
import Derived.BigQuiet
import Derived.WalkSmall
namespace Go.Proofs.Qxb6619304aDoor
open Go Go.RowKit Go.Lib Go.Sort

theorem wraps_yes (n : Nat) (width : Int) (w : World) (h1 : 1000000000000000000 ≤ n) (h2 : 20 ≤ width) :
    Calls Tryd.prog 6 #[.int .i64 n, .int .i64 width] w fun e w' => e = .returned (.bool true) ∧ w' = w := by
  obtain ⟨a, ha⟩ : ∃ a : Int, a = (n : Int) := ⟨_, rfl⟩
  have h1' : 1000000000000000000 ≤ a := by omega
  rw [← ha]
  clear ha h1
  go_enter Tryd.func6, Tryd.ntmps6
  go_wp2
  go_ret
  exact ⟨rfl, rfl⟩

theorem wraps_no (n : Nat) (width : Int) (w : World) (h : n < 1000000000000000000 ∨ width ≤ 19) :
    Calls Tryd.prog 6 #[.int .i64 n, .int .i64 width] w fun e w' => e = .returned (.bool false) ∧ w' = w := by
  obtain ⟨a, ha⟩ : ∃ a : Int, a = (n : Int) := ⟨_, rfl⟩
  have h' : a < 1000000000000000000 ∨ width ≤ 19 := by omega
  rw [← ha]
  clear ha h
  by_cases hc : a < 1000000000000000000
  · clear h'
    have dq : decide (1000000000000000000 ≤ a) = false := by simp; omega
    go_enter Tryd.func6, Tryd.ntmps6
    go_wp2
    go_ret
    exact ⟨rfl, rfl⟩
  · have hw : width ≤ 19 := by omega
    have hc2 : 1000000000000000000 ≤ a := by omega
    have dw : decide (20 ≤ width) = false := by simp; omega
    clear h' hc
    go_enter Tryd.func6, Tryd.ntmps6
    go_wp2
    go_ret
    exact ⟨rfl, rfl⟩

theorem lead_digit (n m : Nat) (hm : 1 ≤ m) (h1 : 10 ^ (m - 1) ≤ n) (h2 : n < 10 ^ m) : 1 ≤ n / 10 ^ (m - 1) % 10 := by
  have hp : 0 < 10 ^ (m - 1) := Nat.pow_pos (by omega)
  have h3 : 1 ≤ n / 10 ^ (m - 1) := (Nat.le_div_iff_mul_le hp).2 (by omega)
  have h4 : n / 10 ^ (m - 1) < 10 := by
    rw [Nat.div_lt_iff_lt_mul hp]
    obtain ⟨q, rfl⟩ : ∃ q, m = q + 1 := ⟨m - 1, by omega⟩
    rw [Nat.pow_succ] at h2
    rw [Nat.add_sub_cancel]
    omega
  omega

/-- The reading of the padded numeral, one digit more. -/
theorem read_step (n m k : Nat) (hk : k < m) : n / 10 ^ (m - (k + 1)) = n / 10 ^ (m - k) * 10 + n / 10 ^ (m - 1 - k) % 10 := by
  have e : m - k = (m - 1 - k) + 1 := by omega
  have e2 : m - (k + 1) = m - 1 - k := by omega
  rw [e, e2, Nat.pow_succ, ← Nat.div_div_eq_div_mul]
  omega

theorem read_le (n m k : Nat) (hk : k < m) : n / 10 ^ (m - k) ≤ n / 10 := by
  have e : m - k = (m - k - 1) + 1 := by omega
  rw [e, Nat.pow_succ, Nat.mul_comm, ← Nat.div_div_eq_div_mul]
  exact Nat.div_le_self _ _

set_option maxHeartbeats 1600000 in
set_option maxRecDepth 100000 in
theorem isPadded (g off m cap n : Nat) (width : Int) (w : World) (hm : m ≤ maxLen) (hm1 : 1 ≤ m) (hn : n ≤ 9223372036854775807) (hnm : n < 10 ^ m) (hw : width ≤ m)
    (hlead : 1 < m → width < m → 10 ^ (m - 1) ≤ n)
    (hc : ∀ i, i < m → w.cell? ⟨g, off + i, none⟩ = some (.int .u8 ((dg n (m - 1 - i)).toNat : Int))) :
    Calls Tryd.prog 10 #[.slice (some ⟨g, off, none⟩) m cap, .int .i64 n, .int .i64 width] w fun e w' => e = .returned (.bool true) ∧ w' = w := by
  unfold maxLen at hm
  have HC := hid hc
  have HNM := hid hnm
  have HL := hid hlead
  clear hc hnm hlead
  have h0 : ((m : Int) == 0) = false := by simp; omega
  obtain ⟨N, hN⟩ : ∃ N : Int, N = (n : Int) := ⟨_, rfl⟩
  have hN0 : 0 ≤ N := by omega
  have hN1 : N ≤ 9223372036854775807 := by omega
  have HN := hid hN
  rw [← hN]
  clear hN hn
  go_enter Tryd.func10, Tryd.ntmps10
  go_wp2_with fail
  go_loop [8, 9] (fun v i => ∃ k : Nat, ∃ a : Int, k ≤ m ∧ i = .int .i64 k ∧ v = .int .u64 a ∧ a = ((n / 10 ^ (m - k) : Nat) : Int)) (fun _ i => m - (RowKit.intOf i).toNat)
  case atStart => exact ⟨0, 0, by omega, rfl, rfl, by rw [Nat.sub_zero, Nat.div_eq_of_lt HNM.out]; rfl⟩
  case round =>
    obtain ⟨k, a, hk, rfl, rfl, ha⟩ := hrel
    have HA := hid ha
    have ha0 : 0 ≤ a := by rw [ha]; exact Int.natCast_nonneg _
    clear ha
    by_cases hlt : k < m
    · have hck := HC.out k hlt
      rw [dg_toNat] at hck
      have hs := read_step n m k hlt
      have hl := read_le n m k hlt
      have hsl : n / 10 ^ (m - (k + 1)) ≤ n := Nat.div_le_self _ _
      obtain ⟨e, he⟩ : ∃ e : Int, e = ((n / 10 ^ (m - 1 - k) % 10 : Nat) : Int) := ⟨_, rfl⟩
      have he0 : 0 ≤ e := by omega
      have he9 : e ≤ 9 := by omega
      have HS := hid (show a * 10 + e = ((n / 10 ^ (m - (k + 1)) : Nat) : Int) by have := HA.out; omega)
      have hq : a ≤ N / 10 := by have := HA.out; have := HN.out; omega
      have hle : a * 10 + e ≤ N := by have := HS.out; have := HN.out; omega
      have hck2 : w.cell? ⟨g, off + k, none⟩ = some (.int .u8 (48 + e)) := by rw [hck, he]; norm_cast
      clear hck hs hl hsl he HA
      go_wp2_with fail
      exact ⟨⟨k + 1, _, by omega, by go_num, rfl, by rw [← HS.out]; omega⟩, by simp [RowKit.intOf]; omega⟩
    · have ek : k = m := by omega
      obtain rfl : a = N := by
        have h1 := HA.out
        rw [ek, Nat.sub_self, Nat.pow_zero, Nat.div_one] at h1
        exact h1.trans HN.out.symm
      clear HA ek
      have dw : decide ((m : Int) < width) = false := by simp; omega
      by_cases hm2 : 1 < m
      · by_cases hw2 : width < m
        · have hc0 := HC.out 0 hm1
          rw [dg_toNat, Nat.sub_zero] at hc0
          have hd := lead_digit n m hm1 (HL.out hm2 hw2) HNM.out
          obtain ⟨e, he⟩ : ∃ e : Int, e = ((n / 10 ^ (m - 1) % 10 : Nat) : Int) := ⟨_, rfl⟩
          have hc2 : w.cell? ⟨g, off, none⟩ = some (.int .u8 (48 + e)) := by rw [he]; exact hc0
          have hne : (48 + e == 48) = false := by rw [beq_eq_false_iff_ne]; omega
          have hd1 : decide (1 < (m : Int)) = true := by simp; omega
          have hd2 : decide (width < (m : Int)) = true := by simp; omega
          clear hc0 hd he
          go_wp2
          go_ret
          exact ⟨rfl, rfl⟩
        · have hd1 : decide (1 < (m : Int)) = true := by simp; omega
          have hd2 : decide (width < (m : Int)) = false := by simp; omega
          go_wp2
          go_ret
          exact ⟨rfl, rfl⟩
      · have hd1 : decide (1 < (m : Int)) = false := by simp; omega
        go_wp2
        go_ret
        exact ⟨rfl, rfl⟩

/-! ### zzShortlex -/

/-- -1, 0 or 1, as n1 stands to n2. -/
def sg (n1 n2 : Nat) : Int := if n1 < n2 then -1 else if n2 < n1 then 1 else 0
theorem sg_lt {n1 n2 : Nat} (h : n1 < n2) : sg n1 n2 = -1 := by unfold sg; rw [if_pos h]
theorem sg_gt {n1 n2 : Nat} (h : n2 < n1) : sg n1 n2 = 1 := by unfold sg; rw [if_neg (by omega), if_pos h]
theorem sg_eq (n : Nat) : sg n n = 0 := by unfold sg; rw [if_neg (by omega), if_neg (by omega)]

theorem shortlex_lt (a b : Option Addr) (m1 c1 m2 c2 : Nat) (w : World) (h : m1 < m2) :
    Calls Tryd.prog 11 #[.slice a m1 c1, .slice b m2 c2] w fun e w' => e = .returned (.int .i64 (-1)) ∧ w' = w := by
  have hne : ((m1 : Int) != (m2 : Int)) = true := by rw [bne_iff_ne]; omega
  go_enter Tryd.func11, Tryd.ntmps11
  go_wp2
  go_ret
  exact ⟨rfl, rfl⟩

theorem shortlex_gt (a b : Option Addr) (m1 c1 m2 c2 : Nat) (w : World) (h : m2 < m1) :
    Calls Tryd.prog 11 #[.slice a m1 c1, .slice b m2 c2] w fun e w' => e = .returned (.int .i64 1) ∧ w' = w := by
  have hne : ((m1 : Int) != (m2 : Int)) = true := by rw [bne_iff_ne]; omega
  go_enter Tryd.func11, Tryd.ntmps11
  go_wp2
  go_ret
  exact ⟨rfl, rfl⟩

theorem lt_of_div (n1 n2 p : Nat) (h : n1 / p < n2 / p) : n1 < n2 := by
  rcases Nat.lt_or_ge n1 n2 with hl | hg
  · exact hl
  · have := Nat.div_le_div_right (c := p) hg
    omega

set_option maxHeartbeats 1600000 in
set_option maxRecDepth 100000 in
theorem shortlex_eq (g1 o1 c1 g2 o2 c2 m n1 n2 : Nat) (w : World) (hm : m ≤ maxLen) (hn1 : n1 < 10 ^ m) (hn2 : n2 < 10 ^ m)
    (hc1 : ∀ i, i < m → w.cell? ⟨g1, o1 + i, none⟩ = some (.int .u8 ((dg n1 (m - 1 - i)).toNat : Int)))
    (hc2 : ∀ i, i < m → w.cell? ⟨g2, o2 + i, none⟩ = some (.int .u8 ((dg n2 (m - 1 - i)).toNat : Int))) :
    Calls Tryd.prog 11 #[.slice (some ⟨g1, o1, none⟩) m c1, .slice (some ⟨g2, o2, none⟩) m c2] w fun e w' => e = .returned (.int .i64 (sg n1 n2)) ∧ Below w.heap.size w w' := by
  unfold maxLen at hm
  have HC1 := hid hc1
  have HC2 := hid hc2
  have HN := hid (And.intro hn1 hn2)
  clear hc1 hc2 hn1 hn2
  obtain ⟨r, hr⟩ : ∃ r : Int, r = sg n1 n2 := ⟨_, rfl⟩
  have HR := hid hr
  rw [← hr]
  clear hr
  go_enter Tryd.func11, Tryd.ntmps11
  go_wp2_with fail
  go_loopw [5] (fun i wr => ∃ k q : Nat, k ≤ m ∧ i = .int .i64 k ∧ wr = w.drewN q ∧ n1 / 10 ^ (m - k) = n2 / 10 ^ (m - k)) (fun i _ => m - (RowKit.intOf i).toNat)
  case atStart => exact ⟨0, 0, by omega, rfl, rfl, by rw [Nat.sub_zero, Nat.div_eq_of_lt HN.out.1, Nat.div_eq_of_lt HN.out.2]⟩
  case round =>
    obtain ⟨k, q, hk, rfl, rfl, hp⟩ := hrel
    have HP := hid hp
    clear hp
    by_cases hlt : k < m
    · have ck1 := HC1.out k hlt
      have ck2 := HC2.out k hlt
      rw [dg_toNat] at ck1 ck2
      have s1 := read_step n1 m k hlt
      have s2 := read_step n2 m k hlt
      obtain ⟨e1, he1⟩ : ∃ e : Int, e = ((48 + n1 / 10 ^ (m - 1 - k) % 10 : Nat) : Int) := ⟨_, rfl⟩
      obtain ⟨e2, he2⟩ : ∃ e : Int, e = ((48 + n2 / 10 ^ (m - 1 - k) % 10 : Nat) : Int) := ⟨_, rfl⟩
      rw [← he1] at ck1
      rw [← he2] at ck2
      have hp := HP.out
      by_cases hee : e1 = e2
      · have HP2 := hid (show n1 / 10 ^ (m - (k + 1)) = n2 / 10 ^ (m - (k + 1)) by rw [s1, s2, hp]; omega)
        subst hee
        clear s1 s2 he1 he2 hp HP
        go_wp2_with fail
        go_quiet (fail)
        go_wp2
        exact ⟨⟨k + 1, q + nq, by omega, by go_num, rfl, HP2.out⟩, by simp [RowKit.intOf]; omega⟩
      · have hne : (e1 != e2) = true := by rw [bne_iff_ne]; exact hee
        by_cases hl : e1 < e2
        · have HV := hid (show r = -1 by
            rw [HR.out]; refine sg_lt (lt_of_div n1 n2 (10 ^ (m - (k + 1))) ?_)
            rw [s1, s2, hp]; omega)
          clear s1 s2 he1 he2 hp HP hee
          go_wp2_with fail
          go_quiet (fail)
          go_wp2_with fail
          go_quiet (fail)
          go_wp2
          go_ret
          exact ⟨by rw [HV.out]; rfl, below_drewN (below_drewN (below_drewN (Below.refl _ _) _) _) _⟩
        · have HV := hid (show r = 1 by
            rw [HR.out]; refine sg_gt (lt_of_div n2 n1 (10 ^ (m - (k + 1))) ?_)
            rw [s1, s2, hp]; omega)
          clear s1 s2 he1 he2 hp HP hee
          go_wp2_with fail
          go_quiet (fail)
          go_wp2_with fail
          go_quiet (fail)
          go_wp2
          go_ret
          exact ⟨by rw [HV.out]; rfl, below_drewN (below_drewN (below_drewN (Below.refl _ _) _) _) _⟩
    · have HV := hid (show r = 0 by
        have h1 := HP.out
        rw [show k = m by omega, Nat.sub_self, Nat.pow_zero, Nat.div_one, Nat.div_one] at h1
        rw [HR.out, h1]; exact sg_eq n2)
      go_wp2
      go_ret
      exact ⟨by rw [HV.out]; rfl, below_drewN (Below.refl _ _) _⟩
end Go.Proofs.Qxb6619304aDoor
