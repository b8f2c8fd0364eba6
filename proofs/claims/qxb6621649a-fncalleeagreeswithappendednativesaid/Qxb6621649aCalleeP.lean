/-
  FnCalleeAgreesWithAppendedNative: the walk where procs holds the name.
-/
import Derived.Test.Qxb6621649aCalleeN
namespace Go.Proofs.Qxb6621649a.callee
open Go.ChangeShapes Go.WideShapes Go.ChangeAt Go.RowKit

set_option maxHeartbeats 4000000 in
set_option maxRecDepth 100000 in
theorem walk_p (op arg line : Int) (name extra : ByteArray) (mv : Value) (a : Option Addr) (n cap : Nat) (nm : Nat → ByteArray) (pv : Int) (c : Nat) (w : World)
    (h1 : name.size ≤ 1048576) (h2 : extra.size ≤ 1048576) (h3 : n ≤ 65536) (h4 : c ≤ 4096) (h5 : name.size + extra.size ≤ 1048576) (hA : Names w a n nm) (hex : nm n = extra)
    (hl : Looks w mv name pv true) (hlen : ∀ ty, (Builtin.len_ #[30] ty #[mv]).run Try.prog w = .ok (.int .i64 c) w) :
    Calls Try.prog 5 #[.int .u8 op, .int .i64 arg, .int .i64 line, .string name, mv, .slice a n cap, .string extra] w fun e w' => e = .returned (.bool true) ∧ Below w.heap.size w w' := by
  have HA : Hid (Names w a n nm) := hA
  have HX : Hid (nm n = extra) := hex
  have HL : Hid (Looks w mv name pv true) := hl
  have hqe := run_eql_instr
  have hqn := run_neq_instr
  clear hA hex hl
  have d1 : decide (1048576 < (name.size : Int)) = false := by simp; omega
  have d2 : decide (1048576 < (extra.size : Int)) = false := by simp; omega
  have d3 : decide (65536 < (n : Int)) = false := by simp; omega
  have d4 : decide (4096 < (c : Int)) = false := by simp; omega
  have d5 : decide (1048576 < (name.size : Int) + (extra.size : Int)) = false := by simp; omega
  go_enter Try.func5, Try.ntmps5
  go_wp2_with fail
  go_loop [15, 16] (fun z i => ∃ k : Nat, ∃ t : Int, k ≤ n ∧ 0 ≤ t ∧ t ≤ 1048576 ∧ i = .int .i64 k ∧ z = .int .i64 t) (fun _ i => n - (intOf i).toNat)
  case atStart => exact ⟨0, _, by omega, by omega, by omega, rfl, rfl⟩
  case round =>
    obtain ⟨k, t, hk, ht0, ht1, rfl, rfl⟩ := hrel
    by_cases hlt : k < n
    · obtain ⟨b, off, rfl, hb, hcl, hz⟩ := HA.out k hlt
      have hck := hcl k hlt
      have hzk := hz k hlt
      clear hcl hz
      by_cases h6 : 1048576 < t + (16 + (nm k).size)
      · go_wp2
        go_ret
        exact ⟨rfl, Below.refl _ _⟩
      · go_wp2
        exact ⟨⟨k + 1, t + (16 + (nm k).size), by omega, by omega, by omega, by go_num, by go_num⟩, by simp [intOf]; omega⟩
    · clear ht0 ht1 hk
      have hmk := run_hosts n (by omega)
      have HR0 : Hid (RowInv w n nm 0 (w.alloc (.cells (madeCells host0 ((n + 1) * 3)) 38))) := RowInv.start w n nm
      go_wp2_with fail
      clear hmk hlen hlt
      go_loopw [19] (fun i wr => ∃ k : Nat, k ≤ n ∧ i = .int .i64 k ∧ RowInv w n nm k wr) (fun i _ => n - (intOf i).toNat)
      case atStart => exact ⟨0, by omega, rfl, HR0.out⟩
      case round =>
        obtain ⟨k, hk, rfl, hR⟩ := hrel
        have HR : Hid (RowInv w n nm k wr) := hR
        clear HR0 hR
        by_cases hlt : k < n
        · obtain ⟨b, off, rfl, hb, hcl, hz⟩ := HA.out k hlt
          have hck : wr.cell? ⟨b, off + k, none⟩ = some (.string (nm k)) := by
            rw [HR.out.below.cell (p := ⟨b, off + k, none⟩) hb]; exact hcl k hlt
          obtain ⟨s, hs⟩ := HR.out.cell k (by omega)
          have hfz := HR.out.frozen (k * 3)
          have hlt2 : (k : Int) < (n : Int) + 1 := by omega
          have HR1 : Hid (RowInv w n nm (k + 1) (wr.setCell ⟨w.heap.size, k * 3, none⟩ (.string (nm k)))) := HR.out.step (by omega)
          clear hcl hz
          go_wp2
          exact ⟨⟨k + 1, by omega, by go_num, HR1.out⟩, by simp [intOf]; omega⟩
        · have ek : k = n := by omega
          obtain ⟨s, hs⟩ := HR.out.cell n (by omega)
          have hfz := HR.out.frozen (n * 3)
          have HR1 : Hid (RowInv w n nm (n + 1) (wr.setCell ⟨w.heap.size, n * 3, none⟩ (.string extra))) := by
            have := HR.out.step (by omega)
            rw [ek, HX.out] at this
            exact this
          have hlt2 : (n : Int) < (n : Int) + 1 := by omega
          have zr := HR.out.size
          clear HR ek
          go_wp2_with fail
          clear hlt hs hfz hlt2
          have hF := four (show (wr.setCell ⟨w.heap.size, n * 3, none⟩ (.string extra)).heap.size = w.heap.size + 1 by simp [World.setCell]; exact zr)
            (.cells #[.int .u8 op, .int .i64 arg, .int .i64 line] 41) (.cells #[.int .u8 43, .int .i64 arg, .int .i64 line] 41) (.cells #[.int .u8 op, .int .i64 arg, .int .i64 line] 41) (.cells #[.int .u8 op, .int .i64 arg, .int .i64 line] 41)
          have hB5 := HR1.out.below.trans ((below_four (wr.setCell ⟨w.heap.size, n * 3, none⟩ (.string extra))
            (.cells #[.int .u8 op, .int .i64 arg, .int .i64 line] 41) (.cells #[.int .u8 43, .int .i64 arg, .int .i64 line] 41) (.cells #[.int .u8 op, .int .i64 arg, .int .i64 line] 41) (.cells #[.int .u8 op, .int .i64 arg, .int .i64 line] 41)).mono HR1.out.below.size)
          generalize ((((wr.setCell ⟨w.heap.size, n * 3, none⟩ (.string extra)).alloc (.cells #[.int .u8 op, .int .i64 arg, .int .i64 line] 41)).alloc (.cells #[.int .u8 43, .int .i64 arg, .int .i64 line] 41)).alloc (.cells #[.int .u8 op, .int .i64 arg, .int .i64 line] 41)).alloc (.cells #[.int .u8 op, .int .i64 arg, .int .i64 line] 41) = W5 at hF hB5 ⊢
          obtain ⟨z5, k1, k2, k3, k4, kr⟩ := hF
          have HK : Hid (W5.heap.size = w.heap.size + 5 ∧ W5.heap[w.heap.size + 1]? = some (.cells #[.int .u8 op, .int .i64 arg, .int .i64 line] 41) ∧ W5.heap[w.heap.size + 1 + 1]? = some (.cells #[.int .u8 43, .int .i64 arg, .int .i64 line] 41) ∧
            W5.heap[w.heap.size + 1 + 1 + 1]? = some (.cells #[.int .u8 op, .int .i64 arg, .int .i64 line] 41) ∧ W5.heap[w.heap.size + 1 + 1 + 1 + 1]? = some (.cells #[.int .u8 op, .int .i64 arg, .int .i64 line] 41)) := ⟨z5, k1, k2, k3, k4⟩
          have HN5 : Hid (∀ wx, (wx.heap[w.heap.size]? = W5.heap[w.heap.size]?) → ∀ m, m ≤ n + 1 → Hosts wx w.heap.size m nm) := fun wx hx m hm => HR1.out.hosts (hx.trans (kr _ (by omega))) m hm
          have HB5 : Hid (Below w.heap.size w W5) := hB5
          clear z5 k1 k2 k3 k4 kr hB5 HR1 zr
          refine (callee_in (w.heap.size + 1 + 1 + 1) op arg line name mv _ pv W5 HK.out.2.2.2.1 (HL.out.on HB5.out)).mono ?_
          rintro e w6 ⟨rfl, g6, c6⟩
          have z6 := g6.size
          have HB6 : Hid (Below w.heap.size w w6) := below_of_grown HB5.out g6 (by omega)
          have HK6 : Hid (w6.heap[w.heap.size + 1]? = W5.heap[w.heap.size + 1]? ∧ w6.heap[w.heap.size + 1 + 1 + 1 + 1]? = W5.heap[w.heap.size + 1 + 1 + 1 + 1]?) := by
            have hz := HK.out.1
            exact ⟨g6.block _ (by omega) (fun e => by injection e with e; omega), g6.block _ (by omega) (fun e => by injection e with e; omega)⟩
          have HC6 : Hid (w6.heap.size ≥ w.heap.size + 5) := by have := HK.out.1; show _ ≤ _; omega
          have HI6 := hidd c6
          clear g6 c6 z6
          go_wp2_with fail
          refine (callee_in (w.heap.size + 1 + 1 + 1 + 1) op arg line name mv _ pv w6 (HK6.out.2.trans HK.out.2.2.2.2) (HL.out.on HB6.out)).mono ?_
          rintro e w7 ⟨rfl, g7, c7⟩
          have hB7 : Below w.heap.size w w7 := below_of_grown HB6.out g7 (by omega)
          have k1 : w7.heap[w.heap.size + 1]? = some (.cells #[.int .u8 op, .int .i64 arg, .int .i64 line] 41) := by
            rw [g7.block _ (by have := HC6.out; omega) (fun e => by injection e with e; omega), HK6.out.1]; exact HK.out.2.1
          have k3 := (g7.block (w.heap.size + 1 + 1 + 1) (by have := HC6.out; omega) (fun e => by injection e with e; omega)).trans HI6.out
          have o0 := cell_of_block k1 0
          have o1 := cell_of_block k1 1
          have o2 := cell_of_block k1 2
          have q0 := cell_of_block k3 0
          have q1 := cell_of_block k3 1
          have q2 := cell_of_block k3 2
          have r0 := cell_of_block c7 0
          have r1 := cell_of_block c7 1
          have r2 := cell_of_block c7 2
          have hlk := HL.out w7 hB7
          have HB7 : Hid (Below w.heap.size w w7) := hB7
          clear g7 c7 k1 k3 hB7 HI6 HK6 HC6 HK HN5 HB5 HB6 HL
          go_wp2
          go_ret
          exact ⟨rfl, HB7.out⟩

end Go.Proofs.Qxb6621649a.callee
