/-
  appendPadded: what comes back owns what was owned and, behind it, the padded numeral.
-/
import Derived.Test.Qxb6619304aDoorAppendInt
import Derived.Test.Qxb6619304aDoorPlain
namespace Go.Proofs.Qxb6619304aDoor
open Go Go.RowKit Go.Lib Go.Sort

theorem byteCells_zeros (i : Nat) : byteCells (List.replicate i 48) ++ [Value.int .u8 48] = byteCells (List.replicate (i + 1) 48) := by
  rw [List.replicate_succ', byteCells_append]; rfl

set_option maxHeartbeats 1600000 in
set_option maxRecDepth 100000 in
theorem pad_any (B k n : Nat) (width : Int) (sv : Value) (xs : List Value) (w : World) (hown : w.ownsRow 0 5 1 sv k xs) (hn : n ≤ 9223372036854775807) (hw0 : -9223372036854775808 ≤ width) (hw1 : width ≤ 65536)
    (hno : n < 1000000000000000000 ∨ width ≤ 19) (hlim : k + 70000 ≤ 140737488355328) (hB : B ≤ w.heap.size) (hsv : ∀ g, sv.ownBlock = some g → B ≤ g)
    (htab : TabBelow Tryd.prog B w powName .u64 pow10Tab) :
    Calls Tryd.prog 12 #[sv, .int .i64 n, .int .i64 width] w fun e w' => Put w sv k xs (text n (plen n width)) e w' := by
  obtain ⟨i0, hi, hz0, hz1, hz2⟩ := info_parts infoByte
  have HO := hid hown
  have HT := hid htab
  have HS := hid hsv
  have HNO := hid hno
  clear hown htab hsv hno
  go_enter Tryd.func12, Tryd.ntmps12
  go_wp2_with fail
  go_loop [2, 7] (fun wd p => ∃ j : Nat, ∃ q : Int, wd = .int .i64 (width - j) ∧ p = .int .i64 q ∧ L1 n width j q) (fun wd _ => (RowKit.intOf wd).toNat)
  case atStart => exact ⟨0, 10, by go_num, rfl, L1.start _ _⟩
  case round =>
    obtain ⟨j, q, rfl, rfl, hL⟩ := hrel
    have HL := hid hL
    have hj18 := hL.le
    have hjw : j = 0 ∨ 1 ≤ width - j := hL.hit.elim .inl (fun h => .inr h.2)
    clear hL
    by_cases hgo : q ≤ n ∧ 1 < width - j
    · obtain ⟨hq, hw⟩ := hgo
      have hj17 := HL.out.lt HNO.out hw
      go_wp2_with fail
      refine ⟨⟨j + 1, wrap64 (q * 10), by go_num, rfl, HL.out.next hj17 hq hw ?_⟩, by simp [RowKit.intOf]; omega⟩
      intro h16
      have hp := HL.out.pow hj17
      have hps := pow_small j h16
      unfold wrap64; omega
    · have HX := hid (show (n : Int) < q ∨ width - j ≤ 1 by omega)
      have HZ := hid (HL.out.zeros (by omega) HNO.out HX.out)
      by_cases hq : q ≤ n
      · have hw : ¬ 1 < width - j := by omega
        clear hgo
        have dq : decide (q ≤ (n : Int)) = true := by simpa using hq
        have dw : decide (1 < width - (j : Int)) = false := by simp; omega
        go_wp2_with fail
        have hlow : -9223372036854775808 ≤ width - j := by omega
        have hhigh : width - j ≤ 65536 := by omega
        generalize hD : width - (j : Int) = d at *
        clear hD hjw HX HL
        go_loopw [0, 2] (fun b wd wr => ∃ i : Nat, wd = .int .i64 (d - i) ∧ i ≤ (d - 1).toNat ∧ wr.ownsRow 0 5 1 b (k + i) (xs ++ byteCells (List.replicate i 48)) ∧ Step w sv wr b) (fun _ wd _ => (RowKit.intOf wd).toNat)
        case atStart => exact ⟨0, by go_num, Nat.zero_le _, by simpa [byteCells] using HO.out, Step.refl _ _⟩
        case round =>
          obtain ⟨i, rfl, hiz, hown, hst⟩ := hrel
          by_cases hgo : 1 < d - i
          · exfalso; omega
          · have ei : i = (d - 1).toNat := by omega
            have HT2 := hid (HT.out.on (hst.below hB HS.out)).here
            have HO2 := hid hown
            have HST := hid hst
            have HE := hid (show i + nDigits n = plen n width by rw [ei]; exact HZ.out)
            clear hown hst ei HZ
            go_wp2_with (go_at_call 13; refine (appendInt_any _ n hn _ _ _ HO2.out (by omega) HT2.out).mono ?_; rintro e w3 ⟨v3, rfl, hown3, hst3⟩)
            go_ret
            refine Put.mk _ v3 rfl ?_ (HST.out.trans hst3)
            rw [← HE.out, text_pad, byteCells_append, List.length_append, List.length_replicate]
            rw [List.append_assoc, Nat.add_assoc] at hown3
            exact hown3
      · clear hgo
        have dq : decide (q ≤ (n : Int)) = false := by simpa using hq
        go_wp2_with fail
        have hlow : -9223372036854775808 ≤ width - j := by omega
        have hhigh : width - j ≤ 65536 := by omega
        generalize hD : width - (j : Int) = d at *
        clear hD hjw HX HL
        go_loopw [0, 2] (fun b wd wr => ∃ i : Nat, wd = .int .i64 (d - i) ∧ i ≤ (d - 1).toNat ∧ wr.ownsRow 0 5 1 b (k + i) (xs ++ byteCells (List.replicate i 48)) ∧ Step w sv wr b) (fun _ wd _ => (RowKit.intOf wd).toNat)
        case atStart => exact ⟨0, by go_num, Nat.zero_le _, by simpa [byteCells] using HO.out, Step.refl _ _⟩
        case round =>
          obtain ⟨i, rfl, hiz, hown, hst⟩ := hrel
          by_cases hgo : 1 < d - i
          · have hown2 := hown.alloc (.cells #[.int .u8 48] 5)
            go_wp2_with (at_builtin; refine wpList_append _ rfl _ _ 22 rfl 5 i0 Tryd.underlying22 hi hz0 hz1 hz2 _ _ _ rfl hown2 ⟨wr.heap.size, 0, none⟩ 1 1 [Value.int .u8 48] rfl rfl ?c1 ?c2 ?c4 ?_)
            case c1 => intro t u' ht; match t, ht with | 0, ht => simp at ht; subst ht; simp [Addr.add]
            case c2 => intro u' hu'; simp at hu'; subst hu'; rfl
            case c4 => omega
            intro v2 w2 hown3 hst2
            have hst3 := (hst.trans (Step.of_below u0 ((Below.refl _ wr).alloc (Nat.le_refl _) _))).trans hst2
            rw [byteCells_zeros] at hown3
            go_wp2
            exact ⟨⟨i + 1, by go_num, by omega, hown3, hst3⟩, by simp [RowKit.intOf]; omega⟩
          · have ei : i = (d - 1).toNat := by omega
            have HT2 := hid (HT.out.on (hst.below hB HS.out)).here
            have HO2 := hid hown
            have HST := hid hst
            have HE := hid (show i + nDigits n = plen n width by rw [ei]; exact HZ.out)
            clear hown hst ei HZ
            go_wp2_with (go_at_call 13; refine (appendInt_any _ n hn _ _ _ HO2.out (by omega) HT2.out).mono ?_; rintro e w3 ⟨v3, rfl, hown3, hst3⟩)
            go_ret
            refine Put.mk _ v3 rfl ?_ (HST.out.trans hst3)
            rw [← HE.out, text_pad, byteCells_append, List.length_append, List.length_replicate]
            rw [List.append_assoc, Nat.add_assoc] at hown3
            exact hown3
end Go.Proofs.Qxb6619304aDoor
