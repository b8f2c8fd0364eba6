/-
  FnCalleeAgreesWithAppendedNative: the walk where procs lacks the name.
-/
import Derived.Test.Qxb6621649aCalleeC
namespace Go.Proofs.Qxb6621649a.callee
open Go.ChangeShapes Go.WideShapes Go.ChangeAt Go.RowKit


theorem heap_push_new (w : World) (o : Obj) {m : Nat} (h : w.heap.size = m) : (w.alloc o).heap[m]? = some o := by
  subst h
  show (w.heap.push o)[w.heap.size]? = _
  simp
theorem heap_push_old (w : World) (o : Obj) {m j : Nat} (h : w.heap.size = m) (hj : j < m) : (w.alloc o).heap[j]? = w.heap[j]? := Below.heap_alloc _ _ _ (by omega)

/-- Four new blocks. -/
theorem four {R : World} {N : Nat} (hz : R.heap.size = N + 1) (o1 o2 o3 o4 : Obj) :
    ((((R.alloc o1).alloc o2).alloc o3).alloc o4).heap.size = N + 5 ∧ ((((R.alloc o1).alloc o2).alloc o3).alloc o4).heap[N + 1]? = some o1 ∧ ((((R.alloc o1).alloc o2).alloc o3).alloc o4).heap[N + 1 + 1]? = some o2 ∧
      ((((R.alloc o1).alloc o2).alloc o3).alloc o4).heap[N + 1 + 1 + 1]? = some o3 ∧ ((((R.alloc o1).alloc o2).alloc o3).alloc o4).heap[N + 1 + 1 + 1 + 1]? = some o4 ∧ ∀ j, j < N + 1 → ((((R.alloc o1).alloc o2).alloc o3).alloc o4).heap[j]? = R.heap[j]? := by
  have z1 : (R.alloc o1).heap.size = N + 1 + 1 := by rw [World.size_alloc, hz]
  have z2 : ((R.alloc o1).alloc o2).heap.size = N + 1 + 1 + 1 := by rw [World.size_alloc, z1]
  have z3 : (((R.alloc o1).alloc o2).alloc o3).heap.size = N + 1 + 1 + 1 + 1 := by rw [World.size_alloc, z2]
  refine ⟨by rw [World.size_alloc, z3], ?_, ?_, ?_, heap_push_new _ _ z3, ?_⟩
  · rw [heap_push_old _ _ z3 (by omega), heap_push_old _ _ z2 (by omega), heap_push_old _ _ z1 (by omega)]; exact heap_push_new _ _ hz
  · rw [heap_push_old _ _ z3 (by omega), heap_push_old _ _ z2 (by omega)]; exact heap_push_new _ _ z1
  · rw [heap_push_old _ _ z3 (by omega)]; exact heap_push_new _ _ z2
  · intro j hj
    rw [heap_push_old _ _ z3 (by omega), heap_push_old _ _ z2 (by omega), heap_push_old _ _ z1 (by omega), heap_push_old _ _ hz (by omega)]
theorem below_of_grown {w W W' : World} {b : Nat} (h : Below w.heap.size w W) (hg : W.grownBy W' (some b)) (hb : w.heap.size ≤ b) : Below w.heap.size w W' :=
  h.grown hg h.size (fun k hk => by cases hk; exact hb)
theorem hidd {p : Prop} (h : p) : Hid p := h
theorem Looks.on {w W : World} {mv : Value} {name : ByteArray} {pv : Int} {inP : Bool} (h : Looks w mv name pv inP) (hb : Below w.heap.size w W) : Looks W mv name pv inP := fun wx hx => h wx (hb.trans (hx.mono hb.size))
theorem below_four (R : World) (o1 o2 o3 o4 : Obj) : Below R.heap.size R ((((R.alloc o1).alloc o2).alloc o3).alloc o4) :=
  ((((Below.refl _ _).alloc (Nat.le_refl _) _).alloc (by simp) _).alloc (by simp; omega) _).alloc (by simp; omega) _

set_option maxHeartbeats 4000000 in
set_option maxRecDepth 100000 in
theorem walk_n (op arg line : Int) (name extra : ByteArray) (mv : Value) (a : Option Addr) (n cap : Nat) (nm : Nat → ByteArray) (pv : Int) (c : Nat) (w : World)
    (h1 : name.size ≤ 1048576) (h2 : extra.size ≤ 1048576) (h3 : n ≤ 65536) (h4 : c ≤ 4096) (h5 : name.size + extra.size ≤ 1048576) (hA : Names w a n nm) (hex : nm n = extra)
    (hl : Looks w mv name pv false) (hlen : ∀ ty, (Builtin.len_ #[30] ty #[mv]).run Try.prog w = .ok (.int .i64 c) w) :
    Calls Try.prog 5 #[.int .u8 op, .int .i64 arg, .int .i64 line, .string name, mv, .slice a n cap, .string extra] w fun e w' => e = .returned (.bool true) ∧ Below w.heap.size w w' := by
  have HA : Hid (Names w a n nm) := hA
  have HX : Hid (nm n = extra) := hex
  have HL : Hid (Looks w mv name pv false) := hl
  have hqe := run_eql_instr
  have hqn := run_neq_instr
  clear hA hex hl
  have d1 : decide (1048576 < (name.size : Int)) = false := by simp; omega
  have d2 : decide (1048576 < (extra.size : Int)) = false := by simp; omega
  have d3 : decide (65536 < (n : Int)) = false := by simp; omega
  have d4 : decide (4096 < (c : Int)) = false := by simp; omega
  have d5 : decide (1048576 < (name.size : Int) + (extra.size : Int)) = false := by simp; omega
  go_enter Try.func5, Try.ntmps5
  go_wp2_with fail
  go_loop [15, 16] (fun z i => ∃ k : Nat, ∃ t : Int, k ≤ n ∧ 0 ≤ t ∧ t ≤ 1048576 ∧ i = .int .i64 k ∧ z = .int .i64 t) (fun _ i => n - (intOf i).toNat)
  case atStart => exact ⟨0, _, by omega, by omega, by omega, rfl, rfl⟩
  case round =>
    obtain ⟨k, t, hk, ht0, ht1, rfl, rfl⟩ := hrel
    by_cases hlt : k < n
    · obtain ⟨b, off, rfl, hb, hcl, hz⟩ := HA.out k hlt
      have hck := hcl k hlt
      have hzk := hz k hlt
      clear hcl hz
      by_cases h6 : 1048576 < t + (16 + (nm k).size)
      · go_wp2
        go_ret
        exact ⟨rfl, Below.refl _ _⟩
      · go_wp2
        exact ⟨⟨k + 1, t + (16 + (nm k).size), by omega, by omega, by omega, by go_num, by go_num⟩, by simp [intOf]; omega⟩
    · clear ht0 ht1 hk
      have hmk := run_hosts n (by omega)
      have HR0 : Hid (RowInv w n nm 0 (w.alloc (.cells (madeCells host0 ((n + 1) * 3)) 38))) := RowInv.start w n nm
      go_wp2_with fail
      clear hmk hlen hlt
      go_loopw [19] (fun i wr => ∃ k : Nat, k ≤ n ∧ i = .int .i64 k ∧ RowInv w n nm k wr) (fun i _ => n - (intOf i).toNat)
      case atStart => exact ⟨0, by omega, rfl, HR0.out⟩
      case round =>
        obtain ⟨k, hk, rfl, hR⟩ := hrel
        have HR : Hid (RowInv w n nm k wr) := hR
        clear HR0 hR
        by_cases hlt : k < n
        · obtain ⟨b, off, rfl, hb, hcl, hz⟩ := HA.out k hlt
          have hck : wr.cell? ⟨b, off + k, none⟩ = some (.string (nm k)) := by
            rw [HR.out.below.cell (p := ⟨b, off + k, none⟩) hb]; exact hcl k hlt
          obtain ⟨s, hs⟩ := HR.out.cell k (by omega)
          have hfz := HR.out.frozen (k * 3)
          have hlt2 : (k : Int) < (n : Int) + 1 := by omega
          have HR1 : Hid (RowInv w n nm (k + 1) (wr.setCell ⟨w.heap.size, k * 3, none⟩ (.string (nm k)))) := HR.out.step (by omega)
          clear hcl hz
          go_wp2
          exact ⟨⟨k + 1, by omega, by go_num, HR1.out⟩, by simp [intOf]; omega⟩
        · have ek : k = n := by omega
          obtain ⟨s, hs⟩ := HR.out.cell n (by omega)
          have hfz := HR.out.frozen (n * 3)
          have HR1 : Hid (RowInv w n nm (n + 1) (wr.setCell ⟨w.heap.size, n * 3, none⟩ (.string extra))) := by
            have := HR.out.step (by omega)
            rw [ek, HX.out] at this
            exact this
          have hlt2 : (n : Int) < (n : Int) + 1 := by omega
          have zr := HR.out.size
          clear HR ek
          go_wp2_with fail
          clear hlt hs hfz hlt2
          have hF := four (show (wr.setCell ⟨w.heap.size, n * 3, none⟩ (.string extra)).heap.size = w.heap.size + 1 by simp [World.setCell]; exact zr)
            (.cells #[.int .u8 op, .int .i64 arg, .int .i64 line] 41) (.cells #[.int .u8 43, .int .i64 arg, .int .i64 line] 41) (.cells #[.int .u8 op, .int .i64 arg, .int .i64 line] 41) (.cells #[.int .u8 op, .int .i64 arg, .int .i64 line] 41)
          have hB5 := HR1.out.below.trans ((below_four (wr.setCell ⟨w.heap.size, n * 3, none⟩ (.string extra))
            (.cells #[.int .u8 op, .int .i64 arg, .int .i64 line] 41) (.cells #[.int .u8 43, .int .i64 arg, .int .i64 line] 41) (.cells #[.int .u8 op, .int .i64 arg, .int .i64 line] 41) (.cells #[.int .u8 op, .int .i64 arg, .int .i64 line] 41)).mono HR1.out.below.size)
          generalize ((((wr.setCell ⟨w.heap.size, n * 3, none⟩ (.string extra)).alloc (.cells #[.int .u8 op, .int .i64 arg, .int .i64 line] 41)).alloc (.cells #[.int .u8 43, .int .i64 arg, .int .i64 line] 41)).alloc (.cells #[.int .u8 op, .int .i64 arg, .int .i64 line] 41)).alloc (.cells #[.int .u8 op, .int .i64 arg, .int .i64 line] 41) = W5 at hF hB5 ⊢
          obtain ⟨z5, k1, k2, k3, k4, kr⟩ := hF
          have HK : Hid (W5.heap.size = w.heap.size + 5 ∧ W5.heap[w.heap.size + 1]? = some (.cells #[.int .u8 op, .int .i64 arg, .int .i64 line] 41) ∧ W5.heap[w.heap.size + 1 + 1]? = some (.cells #[.int .u8 43, .int .i64 arg, .int .i64 line] 41) ∧
            W5.heap[w.heap.size + 1 + 1 + 1]? = some (.cells #[.int .u8 op, .int .i64 arg, .int .i64 line] 41) ∧ W5.heap[w.heap.size + 1 + 1 + 1 + 1]? = some (.cells #[.int .u8 op, .int .i64 arg, .int .i64 line] 41)) := ⟨z5, k1, k2, k3, k4⟩
          have HN5 : Hid (∀ wx, (wx.heap[w.heap.size]? = W5.heap[w.heap.size]?) → ∀ m, m ≤ n + 1 → Hosts wx w.heap.size m nm) := fun wx hx m hm => HR1.out.hosts (hx.trans (kr _ (by omega))) m hm
          have HB5 : Hid (Below w.heap.size w W5) := hB5
          clear z5 k1 k2 k3 k4 kr hB5 HR1 zr
          obtain ⟨f1, hf1⟩ := first_exists nm name n
          cases f1 with
          | some j1 =>
          have HJ : Hid (j1 < n ∧ nm j1 = name ∧ ∀ j, j < j1 → nm j ≠ name) := hf1
          have HF1 : Hid (IsFirst nm name n (some j1)) := hf1
          have HF2 : Hid (IsFirst nm name (n + 1) (some j1)) := ⟨by have := hf1.1; omega, hf1.2.1, hf1.2.2⟩
          have hj1 : j1 < n := hf1.1
          clear hf1
          refine (callee_out (w.heap.size + 1 + 1 + 1) op arg line name mv pv w.heap.size n (n + 1) nm (some j1) W5 HK.out.2.2.2.1 (HL.out.on HB5.out) (by omega) (by have := HK.out.1; omega) (HN5.out W5 rfl n (by omega)) HF1.out).mono ?_
          rintro e w6 ⟨rfl, g6, c6⟩
          simp only [Option.isSome_some, if_true] at c6
          have z6 := g6.size
          have HB6 : Hid (Below w.heap.size w w6) := below_of_grown HB5.out g6 (by omega)
          have HK6 : Hid (w6.heap[w.heap.size]? = W5.heap[w.heap.size]? ∧ w6.heap[w.heap.size + 1]? = W5.heap[w.heap.size + 1]? ∧ w6.heap[w.heap.size + 1 + 1]? = W5.heap[w.heap.size + 1 + 1]? ∧ w6.heap[w.heap.size + 1 + 1 + 1 + 1]? = W5.heap[w.heap.size + 1 + 1 + 1 + 1]?) := by
            have hz := HK.out.1
            exact ⟨g6.block _ (by omega) (fun e => by injection e with e; omega), g6.block _ (by omega) (fun e => by injection e with e; omega), g6.block _ (by omega) (fun e => by injection e with e; omega), g6.block _ (by omega) (fun e => by injection e with e; omega)⟩
          have HC6 : Hid (w6.heap.size ≥ w.heap.size + 5) := by have := HK.out.1; show _ ≤ _; omega
          have HI6 := hidd c6
          clear g6 c6 z6
          go_wp2_with fail
          refine (callee_out (w.heap.size + 1 + 1 + 1 + 1) op arg line name mv pv w.heap.size (n + 1) (n + 1) nm (some j1) w6 (HK6.out.2.2.2.trans HK.out.2.2.2.2) (HL.out.on HB6.out) (by omega) (by have := HC6.out; omega) (HN5.out w6 HK6.out.1 (n + 1) (by omega)) HF2.out).mono ?_
          rintro e w7 ⟨rfl, g7, c7⟩
          simp only [Option.isSome_some, if_true] at c7
          have hB7 : Below w.heap.size w w7 := below_of_grown HB6.out g7 (by omega)
          have k1 : w7.heap[w.heap.size + 1]? = some (.cells #[.int .u8 op, .int .i64 arg, .int .i64 line] 41) := by
            rw [g7.block _ (by have := HC6.out; omega) (fun e => by injection e with e; omega), HK6.out.2.1]; exact HK.out.2.1
          have k2 : w7.heap[w.heap.size + 1 + 1]? = some (.cells #[.int .u8 43, .int .i64 arg, .int .i64 line] 41) := by
            rw [g7.block _ (by have := HC6.out; omega) (fun e => by injection e with e; omega), HK6.out.2.2.1]; exact HK.out.2.2.1
          have k3 := (g7.block (w.heap.size + 1 + 1 + 1) (by have := HC6.out; omega) (fun e => by injection e with e; omega)).trans HI6.out
          have o0 := cell_of_block k1 0
          have o1 := cell_of_block k1 1
          have o2 := cell_of_block k1 2
          have p0 := cell_of_block k2 0
          have p1 := cell_of_block k2 1
          have p2 := cell_of_block k2 2
          have q0 := cell_of_block k3 0
          have q1 := cell_of_block k3 1
          have q2 := cell_of_block k3 2
          have r0 := cell_of_block c7 0
          have r1 := cell_of_block c7 1
          have r2 := cell_of_block c7 2
          have hlk := HL.out w7 hB7
          have HB7 : Hid (Below w.heap.size w w7) := hB7
          clear g7 c7 k1 k2 k3 hB7 HI6 HK6 HC6 HK HN5 HB5 HB6 HL HF1 HF2
          obtain ⟨b, off, rfl, hb, hcl, -⟩ := HA.out j1 hj1
          have hck : w7.cell? ⟨b, off + j1, none⟩ = some (.string name) := by
            rw [HB7.out.cell (p := ⟨b, off + j1, none⟩) hb, hcl j1 hj1, HJ.out.2.1]
          have HCL : Hid (∀ j, j < j1 → w7.cell? ⟨b, off + j, none⟩ = some (.string (nm j))) := fun j hj => by
            rw [HB7.out.cell (p := ⟨b, off + j, none⟩) hb]; exact hcl j (by omega)
          clear hcl
          have e1 : decide ((j1 : Int) < 0) = false := by simp
          have e2 : decide ((n : Int) ≤ (j1 : Int)) = false := by simp; omega
          go_wp2_with fail
          go_loop [31] (fun i => ∃ k : Nat, k ≤ j1 ∧ i = .int .i64 k) (fun i => j1 - (intOf i).toNat)
          case atStart => exact ⟨0, by omega, rfl⟩
          case round =>
            obtain ⟨k, hk, rfl⟩ := hrel
            by_cases hlt : k < j1
            · have hckk := HCL.out k hlt
              have hne := str_ne (HJ.out.2.2 k hlt)
              go_wp2
              exact ⟨⟨k + 1, by omega, by go_num⟩, by simp [intOf]; omega⟩
            · go_wp2
              go_ret
              exact ⟨rfl, HB7.out⟩
          | none =>
          have HJ : Hid (∀ j, j < n → nm j ≠ name) := hf1
          have HF1 : Hid (IsFirst nm name n none) := hf1
          clear hf1
          by_cases hxn : extra = name
          · have HF2 : Hid (IsFirst nm name (n + 1) (some n)) := ⟨by omega, HX.out.trans hxn, HJ.out⟩
            refine (callee_out (w.heap.size + 1 + 1 + 1) op arg line name mv pv w.heap.size n (n + 1) nm none W5 HK.out.2.2.2.1 (HL.out.on HB5.out) (by omega) (by have := HK.out.1; omega) (HN5.out W5 rfl n (by omega)) HF1.out).mono ?_
            rintro e w6 ⟨rfl, g6, c6⟩
            simp only [Option.isSome_none, Bool.false_eq_true, if_false] at c6
            have z6 := g6.size
            have HB6 : Hid (Below w.heap.size w w6) := below_of_grown HB5.out g6 (by omega)
            have HK6 : Hid (w6.heap[w.heap.size]? = W5.heap[w.heap.size]? ∧ w6.heap[w.heap.size + 1]? = W5.heap[w.heap.size + 1]? ∧ w6.heap[w.heap.size + 1 + 1]? = W5.heap[w.heap.size + 1 + 1]? ∧ w6.heap[w.heap.size + 1 + 1 + 1 + 1]? = W5.heap[w.heap.size + 1 + 1 + 1 + 1]?) := by
              have hz := HK.out.1
              exact ⟨g6.block _ (by omega) (fun e => by injection e with e; omega), g6.block _ (by omega) (fun e => by injection e with e; omega), g6.block _ (by omega) (fun e => by injection e with e; omega), g6.block _ (by omega) (fun e => by injection e with e; omega)⟩
            have HC6 : Hid (w6.heap.size ≥ w.heap.size + 5) := by have := HK.out.1; show _ ≤ _; omega
            have HI6 := hidd c6
            clear g6 c6 z6
            go_wp2_with fail
            refine (callee_out (w.heap.size + 1 + 1 + 1 + 1) op arg line name mv pv w.heap.size (n + 1) (n + 1) nm (some n) w6 (HK6.out.2.2.2.trans HK.out.2.2.2.2) (HL.out.on HB6.out) (by omega) (by have := HC6.out; omega) (HN5.out w6 HK6.out.1 (n + 1) (by omega)) HF2.out).mono ?_
            rintro e w7 ⟨rfl, g7, c7⟩
            simp only [Option.isSome_some, if_true] at c7
            have hB7 : Below w.heap.size w w7 := below_of_grown HB6.out g7 (by omega)
            have k1 : w7.heap[w.heap.size + 1]? = some (.cells #[.int .u8 op, .int .i64 arg, .int .i64 line] 41) := by
              rw [g7.block _ (by have := HC6.out; omega) (fun e => by injection e with e; omega), HK6.out.2.1]; exact HK.out.2.1
            have k2 : w7.heap[w.heap.size + 1 + 1]? = some (.cells #[.int .u8 43, .int .i64 arg, .int .i64 line] 41) := by
              rw [g7.block _ (by have := HC6.out; omega) (fun e => by injection e with e; omega), HK6.out.2.2.1]; exact HK.out.2.2.1
            have k3 := (g7.block (w.heap.size + 1 + 1 + 1) (by have := HC6.out; omega) (fun e => by injection e with e; omega)).trans HI6.out
            have o0 := cell_of_block k1 0
            have o1 := cell_of_block k1 1
            have o2 := cell_of_block k1 2
            have p0 := cell_of_block k2 0
            have p1 := cell_of_block k2 1
            have p2 := cell_of_block k2 2
            have q0 := cell_of_block k3 0
            have q1 := cell_of_block k3 1
            have q2 := cell_of_block k3 2
            have r0 := cell_of_block c7 0
            have r1 := cell_of_block c7 1
            have r2 := cell_of_block c7 2
            have hlk := HL.out w7 hB7
            have HB7 : Hid (Below w.heap.size w w7) := hB7
            clear g7 c7 k1 k2 k3 hB7 HI6 HK6 HC6 HK HN5 HB5 HB6 HL HF1 HF2
            go_wp2_with fail
            go_loop [32] (fun i => ∃ k : Nat, k ≤ n ∧ i = .int .i64 k) (fun i => n - (intOf i).toNat)
            case atStart => exact ⟨0, by omega, rfl⟩
            case round =>
            obtain ⟨k, hk, rfl⟩ := hrel
            by_cases hlt : k < n
            · obtain ⟨b, off, rfl, hb, hcl, -⟩ := HA.out k hlt
              have hckk : w7.cell? ⟨b, off + k, none⟩ = some (.string (nm k)) := by
                rw [HB7.out.cell (p := ⟨b, off + k, none⟩) hb]; exact hcl k hlt
              have hne := str_ne (HJ.out k hlt)
              clear hcl
              go_wp2
              exact ⟨⟨k + 1, by omega, by go_num⟩, by simp [intOf]; omega⟩
            · subst hxn
              go_wp2
              go_ret
              exact ⟨rfl, HB7.out⟩
          · have hxb := str_ne hxn
            have HF2 : Hid (IsFirst nm name (n + 1) none) := fun j hj => by
              by_cases ej : j = n
              · rw [ej, HX.out]; exact hxn
              · exact HJ.out j (by omega)
            refine (callee_out (w.heap.size + 1 + 1 + 1) op arg line name mv pv w.heap.size n (n + 1) nm none W5 HK.out.2.2.2.1 (HL.out.on HB5.out) (by omega) (by have := HK.out.1; omega) (HN5.out W5 rfl n (by omega)) HF1.out).mono ?_
            rintro e w6 ⟨rfl, g6, c6⟩
            simp only [Option.isSome_none, Bool.false_eq_true, if_false] at c6
            have z6 := g6.size
            have HB6 : Hid (Below w.heap.size w w6) := below_of_grown HB5.out g6 (by omega)
            have HK6 : Hid (w6.heap[w.heap.size]? = W5.heap[w.heap.size]? ∧ w6.heap[w.heap.size + 1]? = W5.heap[w.heap.size + 1]? ∧ w6.heap[w.heap.size + 1 + 1]? = W5.heap[w.heap.size + 1 + 1]? ∧ w6.heap[w.heap.size + 1 + 1 + 1 + 1]? = W5.heap[w.heap.size + 1 + 1 + 1 + 1]?) := by
              have hz := HK.out.1
              exact ⟨g6.block _ (by omega) (fun e => by injection e with e; omega), g6.block _ (by omega) (fun e => by injection e with e; omega), g6.block _ (by omega) (fun e => by injection e with e; omega), g6.block _ (by omega) (fun e => by injection e with e; omega)⟩
            have HC6 : Hid (w6.heap.size ≥ w.heap.size + 5) := by have := HK.out.1; show _ ≤ _; omega
            have HI6 := hidd c6
            clear g6 c6 z6
            go_wp2_with fail
            refine (callee_out (w.heap.size + 1 + 1 + 1 + 1) op arg line name mv pv w.heap.size (n + 1) (n + 1) nm none w6 (HK6.out.2.2.2.trans HK.out.2.2.2.2) (HL.out.on HB6.out) (by omega) (by have := HC6.out; omega) (HN5.out w6 HK6.out.1 (n + 1) (by omega)) HF2.out).mono ?_
            rintro e w7 ⟨rfl, g7, c7⟩
            simp only [Option.isSome_none, Bool.false_eq_true, if_false] at c7
            have hB7 : Below w.heap.size w w7 := below_of_grown HB6.out g7 (by omega)
            have k1 : w7.heap[w.heap.size + 1]? = some (.cells #[.int .u8 op, .int .i64 arg, .int .i64 line] 41) := by
              rw [g7.block _ (by have := HC6.out; omega) (fun e => by injection e with e; omega), HK6.out.2.1]; exact HK.out.2.1
            have k2 : w7.heap[w.heap.size + 1 + 1]? = some (.cells #[.int .u8 43, .int .i64 arg, .int .i64 line] 41) := by
              rw [g7.block _ (by have := HC6.out; omega) (fun e => by injection e with e; omega), HK6.out.2.2.1]; exact HK.out.2.2.1
            have k3 := (g7.block (w.heap.size + 1 + 1 + 1) (by have := HC6.out; omega) (fun e => by injection e with e; omega)).trans HI6.out
            have o0 := cell_of_block k1 0
            have o1 := cell_of_block k1 1
            have o2 := cell_of_block k1 2
            have p0 := cell_of_block k2 0
            have p1 := cell_of_block k2 1
            have p2 := cell_of_block k2 2
            have q0 := cell_of_block k3 0
            have q1 := cell_of_block k3 1
            have q2 := cell_of_block k3 2
            have r0 := cell_of_block c7 0
            have r1 := cell_of_block c7 1
            have r2 := cell_of_block c7 2
            have hlk := HL.out w7 hB7
            have HB7 : Hid (Below w.heap.size w w7) := hB7
            clear g7 c7 k1 k2 k3 hB7 HI6 HK6 HC6 HK HN5 HB5 HB6 HL HF1 HF2
            go_wp2_with fail
            go_loop [32] (fun i => ∃ k : Nat, k ≤ n ∧ i = .int .i64 k) (fun i => n - (intOf i).toNat)
            case atStart => exact ⟨0, by omega, rfl⟩
            case round =>
            obtain ⟨k, hk, rfl⟩ := hrel
            by_cases hlt : k < n
            · obtain ⟨b, off, rfl, hb, hcl, -⟩ := HA.out k hlt
              have hckk : w7.cell? ⟨b, off + k, none⟩ = some (.string (nm k)) := by
                rw [HB7.out.cell (p := ⟨b, off + k, none⟩) hb]; exact hcl k hlt
              have hne := str_ne (HJ.out k hlt)
              clear hcl
              go_wp2
              exact ⟨⟨k + 1, by omega, by go_num⟩, by simp [intOf]; omega⟩
            · go_wp2
              go_ret
              exact ⟨rfl, HB7.out⟩

end Go.Proofs.Qxb6621649a.callee
