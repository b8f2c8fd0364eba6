/-
  'Rows.FnUnwrapGivesBackWhatFailedWrappedSaid', proved over the walks of Qxb6618947aWalks.lean.
-/
import Derived.Test.Qxb6618947aWalks
namespace Go.Proofs.Qxb6618947a.gives
open Go.ChangeShapes Go.WideShapes Go.ChangeAt Go.RowKit
open Go.ChangeMaps (open_string shut_string)

theorem own : ownKnob Try.prog.godebug = none := by kernel_rfl

/-! ### FnUnwrapGivesBackWhatFailedWrapped -/

theorem gives_out (a0 a1 : ByteArray) (a2 : Int) (w0 : a0.size ≤ maxLen) (w1 : a1.size ≤ maxLen) (w : World) (h : 1048576 < a0.size + a1.size) :
    Calls Try.prog 4 #[.string a0, .string a1, .int .i64 a2] w fun e w' => e = .returned (.bool true) ∧ Below w.heap.size w w' := by
  go_enter Try.func4, Try.ntmps4
  go_wp2_with (go_at_call 12; refine (bytes_no _ _ _ _ w0 w1 h).mono ?_; rintro e w' ⟨rfl, rfl⟩)
  go_ret
  exact ⟨rfl, Below.refl _ _⟩

set_option maxRecDepth 100000 in
theorem gives_in (a0 a1 : ByteArray) (a2 : Int) (w : World) (h : a0.size + a1.size ≤ 1048576) :
    Calls Try.prog 4 #[.string a0, .string a1, .int .i64 a2] w fun e w' => e = .returned (.bool true) ∧ Below w.heap.size w w' := by
  have hns := run_neq_same
  go_enter Try.func4, Try.ntmps4
  go_wp2_with fail
  refine (bytes_yes _ _ _ _ h).mono ?_
  rintro e w' ⟨rfl, rfl⟩
  go_wp2_with fail
  refine (new_facts _).mono ?_
  rintro e w1 ⟨rfl, z1, k1, b1⟩
  have kc : w1.heap[w'.heap.size]? = some (.cells #[.string a1, .int .i64 a2, .nilIface] 36) := by
    rw [b1.block _ (by simp)]; exact heap_alloc_new _ _
  have bw : Below w'.heap.size w' w1 := ((Below.refl _ _).alloc (Nat.le_refl _) _).trans (b1.mono (by simp))
  simp only [World.size_alloc] at z1 k1 b1 ⊢
  go_wp2_with fail
  refine (fail_facts (w'.heap.size + 1) _ _ w1 k1).mono ?_
  rintro e w2 ⟨rfl, z2, k2, c2, b2⟩
  rw [z1] at z2 k2 c2 
  have kd : w2.heap[w'.heap.size]? = some (.cells #[.string a1, .int .i64 a2, .nilIface] 36) := by
    rw [b2.block _ (by omega)]; exact kc
  have bw2 : Below w'.heap.size w' w2 := bw.trans (b2.mono (by omega))
  have q0 := cell_of_block k2 0
  have q1 := cell_of_block k2 1
  have q2 := cell_of_block k2 2
  have r0 := cell_of_block kd 0
  have r1 := cell_of_block kd 1
  have r2 := cell_of_block kd 2
  have hne : (⟨w'.heap.size + 1 + 1, 0, none⟩ : Addr) ≠ ⟨w'.heap.size, 0, none⟩ := by simp
  have heo := run_eql_other (a := ⟨w'.heap.size + 1 + 1, 0, none⟩) (b := ⟨w'.heap.size, 0, none⟩) w2 hne k2 kd
  clear hne kd kc k1 k2 b1 b2 bw z1 z2
  go_wp2_with (first | (go_at_call 15; refine (reader_err _ _ _ c2).mono ?_; rintro e w' ⟨rfl, rfl⟩) | (go_at_call 11; refine (unwrap_deal _ _ _ q2).mono ?_; rintro e w' ⟨rfl, rfl⟩) | (go_at_call 16; refine (unwrap_nil _ _ r2).mono ?_; rintro e w' ⟨rfl, rfl⟩))
  go_ret
  exact ⟨rfl, bw2⟩

theorem walk (a0 a1 : ByteArray) (a2 : Int) (w0 : a0.size ≤ maxLen) (w1 : a1.size ≤ maxLen) (w : World) :
    Calls Try.prog 4 #[.string a0, .string a1, .int .i64 a2] w fun e w' => e = .returned (.bool true) ∧ Below w.heap.size w w' := by
  by_cases h : a0.size + a1.size ≤ 1048576
  · exact gives_in a0 a1 a2 w h
  · exact gives_out a0 a1 a2 w0 w1 w (by omega)

/-! ### THE ROW's STEP: WRITTEN OUT: LEAVE IT -/
set_option maxRecDepth 100000 in
theorem lifted (os : Os) (started : os.Started) (H : Type) (enc : TypeId × Value → H) :
    ReturnsInHanded {} Try.checked os 4 .any (Rows.fnUnwrapGivesBackWhatFailedWrappedSpec.pre6 enc Try.prog Try.f4 Rows.fnUnwrapGivesBackWhatFailedWrappedRow.domain false) (Rows.fnUnwrapGivesBackWhatFailedWrappedSpec.post enc Try.prog Try.f4 false true false false) := by
  refine returnsInHanded_of_change (C := Try.checked) own started (by kernel_rfl) Try.func4
    (ChangeSpec.witness6 (enc := enc) (C := Try.checked) false ⟨#[], #[.string ByteArray.empty, .string ByteArray.empty, .int .i64 0], []⟩ 8 (by kernel_rfl) (by kernel_rfl) (by kernel_rfl) (by kernel_rfl)) ?_
  intro W base args ds gs before hval0 hW hcnd _
  have hval : ∀ (j : Nat) t v, Try.f4.params[j]? = some t → args[j]? = some v → Value.okWide Try.prog W .any base t v := hval0
  have hW' := hW
  obtain ⟨p, q, hA0, hV, rfl, hfz, hnd⟩ := hW
  have hA : DataW.TrodAll enc Try.prog W 0 (fun _ => true) true Try.f4.params.toList args.toList ds p := hA0
  rw [Try.params4] at hA hval
  obtain ⟨v0, vs0, d0, ds0, p0, q0, hargs, rfl, rfl, h0, r0⟩ := trodAll_cons hA
  obtain ⟨v1, vs1, d1, ds1, p1, q1, rfl, rfl, rfl, h1, r1⟩ := trodAll_cons r0
  obtain ⟨v2, vs2, d2, ds2, p2, q2, rfl, rfl, rfl, h2, r2⟩ := trodAll_cons r1
  obtain ⟨rfl, rfl, rfl⟩ := trodAll_nil r2
  obtain rfl : args = #[v0, v1, v2] := by cases args; simp_all
  obtain ⟨rfl, rfl⟩ := trodVars_none hV
  obtain ⟨a0, rfl, rfl, rfl, w0⟩ := open_string Try.underlying9 (hval 0 9 v0 rfl rfl) h0
  obtain ⟨a1, rfl, rfl, rfl, w1⟩ := open_string Try.underlying9 (hval 1 9 v1 rfl rfl) h1
  obtain ⟨a2, rfl, rfl, rfl, w2⟩ := open_int Try.underlying3 (hval 2 3 v2 rfl rfl) h2
  clear hA0 hval0
  simp only [List.append_nil] at hW'
  refine (walk a0 a1 a2 w0 w1 W).mono fun e W' ⟨he, bel⟩ => ?_
  subst he
  exact ⟨_, rfl, _, _, _, [], [], [], hW', trodAll_mk1 (shut_bool Try.underlying4 _), (trodAll_cons_mk (shut_string Try.underlying9 w0) (trodAll_cons_mk (shut_string Try.underlying9 w1) (trodAll_cons_mk (shut_int Try.underlying3 w2) trodAll_mk0))), rfl, bel.frame _, fun h => by cases h⟩

theorem over : Rows.fnUnwrapGivesBackWhatFailedWrappedRow.holds Try.pinned (OpenSpec.ofChange Rows.fnUnwrapGivesBackWhatFailedWrappedSpec) :=
  OpenClaim.holds_of_wide 4 Try.f4 rfl rfl rfl rfl rfl rfl rfl ⟨rfl, rfl, rfl, rfl, rfl⟩ rfl rfl rfl rfl rfl (by kernel_rfl) Try.func4 (by kernel_rfl)
    (of_decide_eq_true (by kernel_rfl)) (by unfold Func.isWrapper; first | (rw [if_pos (by decide +kernel)]; kernel_rfl) | (rw [if_neg (by decide +kernel)]; exact ⟨rfl, rfl⟩))
    (fun os started H enc _ => lifted os started H enc)

end Go.Proofs.Qxb6618947a.gives
namespace Go.Proofs.Qxb6618947a
/-- THE STATEMENT. -/
theorem unwrapGivesBack_proved : Rows.FnUnwrapGivesBackWhatFailedWrappedSaid := gives.over
end Go.Proofs.Qxb6618947a
