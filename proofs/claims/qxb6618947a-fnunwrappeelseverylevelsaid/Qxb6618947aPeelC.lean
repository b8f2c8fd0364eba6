import Derived.Test.Qxb6618947aPeelB
namespace Go.Proofs.Qxb6618947a.peels
open Go.ChangeShapes Go.WideShapes Go.ChangeAt Go.RowKit

theorem info28 : ∃ i, Try.prog.info? 28 = some i ∧ i.bytes = 8 ∧ i.size = 1 ∧ i.zero = some (.pointer none) := by
  have h : (Try.prog.info? 28).map (fun i => (i.bytes, i.size, i.zero)) = some (8, 1, some (.pointer none)) := by kernel_rfl
  obtain ⟨j, hj, hz⟩ := Option.map_eq_some_iff.1 h
  simp only [Prod.mk.injEq] at hz
  exact ⟨j, hj, hz.1, hz.2.1, hz.2.2⟩

theorem run_levels (n : Nat) (hn : n ≤ 1048576) (w : World) : (Instr.makeSlice 25 (.int .i64 n) (.int .i64 n)).run Try.prog w =
    .ok (.slice (some ⟨w.heap.size, 0, none⟩) n n) (w.alloc (.cells (madeCells #[.pointer none] n) 28)) := by
  obtain ⟨i, hi, hb, hs, hz⟩ := info28
  have h := run_make (P := Try.prog) w 25 28 i _ Try.underlying25 hi hz .i64 .i64 n n (by omega) (by omega) (by rw [hb]; omega) (by omega)
  simpa [hs, Value.cells] using h

set_option maxRecDepth 100000 in
set_option maxHeartbeats 1000000 in
theorem walk_in (b off n cap : Nat) (ss : Nat → ByteArray) (c : ByteArray) (l : Int) (w : World) (hn : n ≤ maxLen) (hcz : c.size ≤ maxLen) (hb : b < w.heap.size)
    (hc : ∀ i, i < n → w.cell? ⟨b, off + i, none⟩ = some (.string (ss i))) (hz : ∀ i, i < n → (ss i).size ≤ maxLen) :
    Calls Try.prog 5 #[.slice (some ⟨b, off, none⟩) n cap, .string c, .int .i64 l] w fun e w' => e = .returned (.bool true) ∧ Below w.heap.size w w' := by
  have hns := run_neq_same
  have HC : Hid (∀ i, i < n → w.cell? ⟨b, off + i, none⟩ = some (.string (ss i))) := hc
  have HZ : Hid (∀ i, i < n → (ss i).size ≤ maxLen) := hz
  have HN : Hid (n ≤ maxLen) := hn
  have HCZ : Hid (c.size ≤ maxLen) := hcz
  unfold maxLen at hn hcz
  clear hc hz
  go_enter Try.func5, Try.ntmps5
  go_wp2_with fail
  refine (bytes_any _ _ _ _ _ _ _ _ HN.out HCZ.out HC.out HZ.out).mono ?_
  rintro e w' ⟨r, rfl, rfl, hr⟩
  cases r with
  | false =>
    go_wp2
    go_ret
    exact ⟨rfl, Below.refl _ _⟩
  | true =>
  have hn2 : n ≤ 1048576 := hr rfl
  clear hr
  by_cases hc1 : 524288 < c.size
  · go_wp2
    go_ret
    exact ⟨rfl, Below.refl _ _⟩
  go_wp2_with fail
  refine (fit_any _ _ _ _ ss _ _ HN.out (by omega) (by omega) HC.out HZ.out).mono ?_
  rintro e w' ⟨r, rfl, rfl, _⟩
  cases r with
  | false =>
    go_wp2
    go_ret
    exact ⟨rfl, Below.refl _ _⟩
  | true =>
  have hmk := run_levels n hn2
  have hI0 : Inv w c l n ss 0 ((w.alloc (.cells #[.string c, .int .i64 l, .nilIface] 36)).alloc (.cells (madeCells #[.pointer none] n) 28)) := by
    refine ⟨by simp, ((Below.refl _ _).alloc (Nat.le_refl _) _).alloc (by simp) _, ?_, fun j hj => by omega, ?_⟩
    · rw [Below.heap_alloc _ _ _ (by simp)]; exact heap_alloc_new _ _
    · refine ⟨madeCells #[.pointer none] n, ?_, size_madeCells _ _, fun j hj => by omega⟩
      have := heap_alloc_new (w.alloc (.cells #[.string c, .int .i64 l, .nilIface] 36)) (.cells (madeCells #[.pointer none] n) 28)
      rwa [World.size_alloc] at this
  have hd1 : decide (524288 < (c.size : Int)) = false := by simp; omega
  have H0 : Hid (Inv w c l n ss 0 ((w.alloc (.cells #[.string c, .int .i64 l, .nilIface] 36)).alloc (.cells (madeCells #[.pointer none] n) 28))) := hI0
  clear hI0
  go_wp2_with fail
  go_loopw [10, 11] (fun cur i wr => ∃ k : Nat, k ≤ n ∧ i = .int .i64 k ∧ cur = .pointer (some ⟨lb w.heap.size k, 0, none⟩) ∧ Inv w c l n ss k wr) (fun _ i _ => n - (intOf i).toNat)
  case atStart => exact ⟨0, Nat.zero_le _, rfl, rfl, H0.out⟩
  case round =>
    obtain ⟨k, hk, rfl, rfl, hI⟩ := hrel
    clear H0 hmk
    by_cases hlt : k < n
    · have HI : Hid (Inv w c l n ss k wr) := hI
      have zr := hI.size
      have br := hI.below
      clear hI
      go_wp2_with fail
      refine (new_facts _).mono ?_
      rintro e w1 ⟨rfl, z1, k1, b1⟩
      have hck : w1.cell? ⟨b, off + k, none⟩ = some (.string (ss k)) := by
        rw [b1.cell (p := ⟨b, off + k, none⟩) (by simp; omega), br.cell (p := ⟨b, off + k, none⟩) (by simpa using hb)]; exact HC.out k hlt
      go_wp2_with fail
      rw [zr] at k1
      refine (fail_facts _ _ _ w1 k1).mono ?_
      rintro e w2 ⟨rfl, z2, k2, c2, b2⟩
      have hn1 : w1.heap.size = w.heap.size + 2 + 2 * k + 1 := by omega
      have HN2 : Hid (Inv w c l n ss (k + 1) (w2.setCell ⟨w.heap.size + 1, k, none⟩ (.pointer (some ⟨w.heap.size + 2 + 2 * k + 1, 0, none⟩)))) :=
        HI.out.step hlt z1 b1 z2 k2 (by rw [zr]; exact b2)
      obtain ⟨cs, hcs, hsz, _⟩ := HI.out.row
      have hcs2 : w2.heap[w.heap.size + 1]? = some (.cells cs 28) := by
        rw [b2.block _ (by omega), b1.block _ (by omega)]; exact hcs
      obtain ⟨v, hv⟩ : ∃ v, w2.cell? ⟨w.heap.size + 1, k, none⟩ = some v := ⟨cs[k], by rw [cell_of_block hcs2]; simp [hsz, hlt]⟩
      have hfz := frozen_of_block hcs2 k
      rw [hn1] at c2
      clear HI zr br z1 k1 b1 hck z2 k2 b2 hn1 hcs hsz hcs2
      go_wp2_with (go_at_call 15; refine (reader_err _ _ _ c2).mono ?_; rintro e w' ⟨rfl, rfl⟩)
      exact ⟨⟨k + 1, by omega, by go_num, by rw [lb_succ], HN2.out⟩, by simp [intOf]; omega⟩
    · have ek : k = n := by omega
      subst ek
      have HI : Hid (Inv w c l k ss k wr) := hI
      clear hI
      go_wp2_with fail
      go_loopw [10, 15] (fun cur i wr => ∃ m : Nat, m ≤ k ∧ i = .int .i64 ((m : Int) - 1) ∧ cur = .pointer (some ⟨lb w.heap.size m, 0, none⟩) ∧ Inv w c l k ss k wr) (fun _ i _ => (intOf i + 1).toNat)
      case atStart => exact ⟨k, Nat.le_refl _, rfl, rfl, HI.out⟩
      case round =>
        obtain ⟨m, hm, rfl, rfl, hI⟩ := hrel
        have HJ : Hid (Inv w c l k ss k wr) := hI
        clear hI HI
        match m with
        | 0 =>
          have kd := HJ.out.cause
          have r0 := cell_of_block kd 0
          have r1 := cell_of_block kd 1
          have r2 := cell_of_block kd 2
          have hB := HJ.out.below
          clear kd
          rw [show (((0 : Nat) : Int) - 1) = -1 from rfl, lb_zero]
          go_wp2_with (go_at_call 16; refine (unwrap_nil _ _ r2).mono ?_; rintro e w' ⟨rfl, rfl⟩)
          go_ret
          exact ⟨rfl, hB⟩
        | 1 =>
          have kd := HJ.out.level 0 (by omega)
          have r0 := cell_of_block kd 0
          have r1 := cell_of_block kd 1
          have r2 := cell_of_block kd 2
          have hck : wr.cell? ⟨b, off, none⟩ = some (.string (ss 0)) := by
            rw [HJ.out.below.cell (p := ⟨b, off, none⟩) (by simpa using hb)]; exact HC.out 0 (by omega)
          rw [show (((1 : Nat) : Int) - 1) = 0 from rfl]
          clear kd
          go_wp2_with fail
          go_quiet (fail)
          have HK : Hid (Inv w c l k ss k (wr.drewN nq)) := HJ.out.drewN nq
          have r3 : (wr.drewN nq).cell? ⟨lb w.heap.size (0 + 1), 2, none⟩ = some (.iface 28 (.pointer (some ⟨w.heap.size, 0, none⟩))) := r2
          clear r0 r1 r2 hck HJ
          generalize wr.drewN nq = w5 at *
          go_wp2_with (go_at_call 11; refine (unwrap_deal _ _ _ r3).mono ?_; rintro e w' ⟨rfl, rfl⟩)
          exact ⟨⟨0, by omega, by go_num, by rw [lb_zero], HK.out⟩, by simp [intOf]⟩
        | j + 2 =>
          have kd := HJ.out.level (j + 1) (by omega)
          have r0 := cell_of_block kd 0
          have r1 := cell_of_block kd 1
          have r2 := cell_of_block kd 2
          have hck : wr.cell? ⟨b, off + (j + 1), none⟩ = some (.string (ss (j + 1))) := by
            rw [HJ.out.below.cell (p := ⟨b, off + (j + 1), none⟩) (by simpa using hb)]; exact HC.out (j + 1) (by omega)
          have hlv : wr.cell? ⟨w.heap.size + 1, j, none⟩ = some (.pointer (some ⟨lb w.heap.size (j + 1), 0, none⟩)) := by
            obtain ⟨cs, hcs, _, hel⟩ := HJ.out.row
            rw [cell_of_block hcs]; exact hel j (by omega)
          have hj1 : ((j : Int) + 1 < k) := by omega
          rw [show (((j + 2 : Nat) : Int) - 1) = (j : Int) + 1 from by omega]
          clear kd
          go_wp2_with fail
          go_quiet (fail)
          have HK : Hid (Inv w c l k ss k (wr.drewN nq)) := HJ.out.drewN nq
          have r3 : (wr.drewN nq).cell? ⟨lb w.heap.size (j + 1 + 1), 2, none⟩ = some (.iface 28 (.pointer (some ⟨lb w.heap.size (j + 1), 0, none⟩))) := r2
          have hlv2 : (wr.drewN nq).cell? ⟨w.heap.size + 1, j, none⟩ = some (.pointer (some ⟨lb w.heap.size (j + 1), 0, none⟩)) := hlv
          clear r0 r1 r2 hck HJ hlv
          generalize wr.drewN nq = w5 at *
          go_wp2_with (go_at_call 11; refine (unwrap_deal _ _ _ r3).mono ?_; rintro e w' ⟨rfl, rfl⟩)
          exact ⟨⟨j + 1, by omega, by go_num, rfl, HK.out⟩, by simp [intOf]; omega⟩

set_option maxRecDepth 100000 in
set_option maxHeartbeats 400000 in
theorem walk_zero (a : Option Addr) (cap : Nat) (c : ByteArray) (l : Int) (w : World) (hcz : c.size ≤ maxLen) :
    Calls Try.prog 5 #[.slice a 0 cap, .string c, .int .i64 l] w fun e w' => e = .returned (.bool true) ∧ Below w.heap.size w w' := by
  have hns := run_neq_same
  have HCZ : Hid (c.size ≤ maxLen) := hcz
  unfold maxLen at hcz
  go_enter Try.func5, Try.ntmps5
  go_wp2_with fail
  refine (bytes_zero _ _ _ _ _ HCZ.out).mono ?_
  rintro e w' ⟨r, rfl, rfl, _⟩
  cases r with
  | false =>
    go_wp2
    go_ret
    exact ⟨rfl, Below.refl _ _⟩
  | true =>
  by_cases hc1 : 524288 < c.size
  · go_wp2
    go_ret
    exact ⟨rfl, Below.refl _ _⟩
  go_wp2_with fail
  refine (fit_zero _ _ _ _ (by omega)).mono ?_
  rintro e w' ⟨r, rfl, rfl, _⟩
  cases r with
  | false =>
    go_wp2
    go_ret
    exact ⟨rfl, Below.refl _ _⟩
  | true =>
  have hmk : ∀ w, (Instr.makeSlice 25 (.int .i64 0) (.int .i64 0)).run Try.prog w = .ok (.slice (some ⟨w.heap.size, 0, none⟩) 0 0) (w.alloc (.cells (madeCells #[.pointer none] 0) 28)) := run_levels 0 (by omega)
  have hd1 : decide (524288 < (c.size : Int)) = false := by simp; omega
  have HI : Hid (Inv w c l 0 (fun _ => c) 0 ((w.alloc (.cells #[.string c, .int .i64 l, .nilIface] 36)).alloc (.cells (madeCells #[.pointer none] 0) 28))) := by
    refine ⟨by simp, ((Below.refl _ _).alloc (Nat.le_refl _) _).alloc (by simp) _, ?_, fun j hj => by omega, ?_⟩
    · rw [Below.heap_alloc _ _ _ (by simp)]; exact heap_alloc_new _ _
    · refine ⟨madeCells #[.pointer none] 0, ?_, size_madeCells _ _, fun j hj => by omega⟩
      have := heap_alloc_new (w.alloc (.cells #[.string c, .int .i64 l, .nilIface] 36)) (.cells (madeCells #[.pointer none] 0) 28)
      rwa [World.size_alloc] at this
  go_wp2_with fail
  go_loopw [10, 11] (fun cur i wr => i = .int .i64 0 ∧ cur = .pointer (some ⟨w.heap.size, 0, none⟩) ∧ Inv w c l 0 (fun _ => c) 0 wr) (fun _ _ _ => 0)
  case atStart => exact ⟨rfl, rfl, HI.out⟩
  case round =>
    obtain ⟨rfl, rfl, hI⟩ := hrel
    have HJ : Hid (Inv w c l 0 (fun _ => c) 0 wr) := hI
    clear hI HI hmk
    go_wp2_with fail
    go_loopw [10, 15] (fun cur i wr => i = .int .i64 (-1) ∧ cur = .pointer (some ⟨w.heap.size, 0, none⟩) ∧ Inv w c l 0 (fun _ => c) 0 wr) (fun _ _ _ => 0)
    case atStart => exact ⟨rfl, rfl, HJ.out⟩
    case round =>
      obtain ⟨rfl, rfl, hI⟩ := hrel
      have kd := hI.cause
      have r0 := cell_of_block kd 0
      have r1 := cell_of_block kd 1
      have r2 := cell_of_block kd 2
      have hB := hI.below
      clear kd hI HJ
      go_wp2_with (go_at_call 16; refine (unwrap_nil _ _ r2).mono ?_; rintro e w' ⟨rfl, rfl⟩)
      go_ret
      exact ⟨rfl, hB⟩

/-- What the walk is told of a slice of strings that came in. -/
def IsStrs (w : World) (a : Option Addr) (len : Nat) (ss : List ByteArray) : Prop :=
  len = 0 ∨ ∃ x, a = some x ∧ len ≤ maxLen ∧ len ≤ ss.length ∧ (∀ i, i < ss.length → w.cell? (x.add i) = some (.string (ss.getD i ByteArray.empty))) ∧ ∀ s ∈ ss, s.size ≤ maxLen

theorem block_lt {w : World} {p : Addr} {v : Value} (h : w.cell? p = some v) : p.block < w.heap.size := by
  rcases Nat.lt_or_ge p.block w.heap.size with hl | hg
  · exact hl
  · have : w.heap[p.block]? = none := Array.getElem?_eq_none hg
    simp [World.cell?, this] at h

theorem walk (a : Option Addr) (len cap : Nat) (ss : List ByteArray) (c : ByteArray) (l : Int) (w : World) (h : IsStrs w a len ss) (hcz : c.size ≤ maxLen) :
    Calls Try.prog 5 #[.slice a len cap, .string c, .int .i64 l] w fun e w' => e = .returned (.bool true) ∧ Below w.heap.size w w' := by
  by_cases h0 : len = 0
  · subst h0; exact walk_zero a cap c l w hcz
  rcases h with h | ⟨x, rfl, hl, hle, hcell, hs⟩
  · exact absurd h h0
  obtain ⟨b, off, spot⟩ := x
  have hc0 := hcell 0 (by omega)
  have hspot : spot = none := by simpa [Addr.add] using World.cell?_spot hc0
  subst hspot
  refine walk_in b off len cap (fun i => ss.getD i ByteArray.empty) c l w hl hcz (block_lt hc0) ?_ ?_
  · intro i hi
    rw [← Go.WideShapes.add_plain]; exact hcell i (by omega)
  · intro i hi
    refine hs _ ?_
    simp [List.getD, show i < ss.length by omega]
end Go.Proofs.Qxb6618947a.peels
