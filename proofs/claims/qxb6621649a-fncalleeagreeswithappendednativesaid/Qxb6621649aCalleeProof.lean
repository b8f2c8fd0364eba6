/-
  'Rows.FnCalleeAgreesWithAppendedNativeSaid', proved over the walks of Qxb6621649aCalleeN.lean and Qxb6621649aCalleeP.lean.
-/
import Derived.Test.Qxb6621649aCalleeP
import Derived.SizedLaws
import Derived.SliceStrings
import Derived.Maps.OwnSet
namespace Go.Proofs.Qxb6621649a.callee
open Go.ChangeShapes Go.WideShapes Go.ChangeAt Go.RowKit Go.WideElems Go.WideMaps Go.Maps
open Go.ChangeMaps (open_string shut_string)

theorem own : ownKnob Try.prog.godebug = none := by kernel_rfl
theorem laidOut : laidOutB Try.prog = true := by kernel_rfl
theorem law : Keyed Try.prog 9 := string_keyed Try.underlying9
theorem zero3 (w : World) : (zeroValue 3).run Try.prog w = .ok (.int .i64 0) w := by kernel_rfl

/-- WHAT A MAP THAT CAME IN TELLS THE WALK: its length, and one look-up, now and in whatever world is as this one was. -/
theorem of_map {H : Type} {enc : TypeId × Value → H} {W : World} {base : Nat} {sp : Nat → Bool} {held : Bool} {fuel : Nat} {a : Option Nat} {x : DataW H × List MemPlace}
    (hf : DataW.trod enc Try.prog W base sp held fuel 30 [.map a] = some x) (name : ByteArray) (hn : name.size ≤ maxLen) :
    ∃ (pv : Int) (inP : Bool) (c : Nat), Looks W (.map a) name pv inP ∧ ∀ ty, (Builtin.len_ #[30] ty #[.map a]).run Try.prog W = .ok (.int .i64 c) W := by
  have hkey := keyOf_string_mk (P := Try.prog) (s := name) Try.underlying9 hn
  rcases open_map Try.underlying30 hf with ⟨hcs, _⟩ | ⟨bm, es, clock, m, rfl, hcs, hb, _, F, _⟩
  · simp only [List.cons.injEq, Value.map.injEq, and_true] at hcs
    subst hcs
    refine ⟨0, false, 0, fun wx _ => ?_, fun ty => Maps.len_nil Try.underlying30 ty⟩
    have := Maps.look_nil (w := wx) true law Try.underlying30 (zero3 wx) hkey
    simpa using this
  · simp only [List.cons.injEq, Value.map.injEq, and_true] at hcs
    subst hcs
    have hown := World.ownsMap_of_fit (R := plainElem Try.prog 3) hb F (fun x _ z hz => elemAt_plainElem_int Try.underlying3 hz)
    have hlt : bm < W.heap.size := (Array.getElem?_eq_some_iff.1 hb).1
    have hzd : plainElem (H := H) Try.prog 3 (.int .i64 0) = some (.lit (.int .i64 0), []) := plainElem_int Try.underlying3 (by decide)
    have key : ∀ wx, Below W.heap.size W wx → ∃ pv : Int, (Instr.lookup 30 (.map (some bm)) (.string name) true).run Try.prog wx = .ok (.tuple #[.int .i64 pv, .bool (Maps.has (.map ((es.toList.map (rg Try.prog 9 (elemAt enc Try.prog W base sp held m 3))).foldr DataW.insert [])) (.string name.data.toList))]) wx ∧
        (DataW.map ((es.toList.map (rg Try.prog 9 (elemAt enc Try.prog W base sp held m 3))).foldr DataW.insert [])).atKey (.string name.data.toList) (.lit (.int .i64 0)) = .lit (.int .i64 pv) := by
      intro wx hx
      have hown' : wx.ownsMap Try.prog 9 (plainElem Try.prog 3) bm es.size (.map ((es.toList.map (rg Try.prog 9 (elemAt enc Try.prog W base sp held m 3))).foldr DataW.insert [])) := by
        obtain ⟨es', clock', hb', r⟩ := hown
        exact ⟨es', clock', by rw [hx.block _ hlt]; exact hb', r⟩
      obtain ⟨v, ps, hrun, hv⟩ := hown'.look_ok law Try.underlying30 (zero3 wx) hzd hkey
      obtain ⟨q, rfl, hq, _⟩ := plainElem_int_inv Try.underlying3 hv
      simp only [Prod.mk.injEq] at hq
      exact ⟨q, hrun, hq.1⟩
    obtain ⟨pv, _, hp⟩ := key W (Below.refl _ _)
    refine ⟨pv, Maps.has (.map ((es.toList.map (rg Try.prog 9 (elemAt enc Try.prog W base sp held m 3))).foldr DataW.insert [])) (.string name.data.toList), _, fun wx hx => ?_, fun ty => hown.len Try.underlying30 ty⟩
    obtain ⟨pv', hrun, hp'⟩ := key wx hx
    have e := hp.symm.trans hp'
    simp only [DataW.lit.injEq, Lit.int.injEq, true_and] at e
    subst e
    exact hrun

theorem weightsAll_mem {H : Type} {P : Program} {e : TypeId} : ∀ {ds : List (DataW H)} {d : DataW H}, d ∈ ds → ∀ n ∈ d.weights P e, n ∈ DataW.weightsAll P e ds
  | d0 :: ds, d, hd, n, hn => by
    simp only [DataW.weightsAll, List.mem_append]
    rcases List.mem_cons.1 hd with rfl | h
    · exact Or.inl hn
    · exact Or.inr (weightsAll_mem h n hn)

/-- The form's own reach, of a string inside a slice of strings. -/
theorem sized_inner {H : Type} {P : Program} {ts : List TypeId} {ds : List (DataW H)} (h : (DataW.weightsEach P ts ds).all (· ≤ reachBytes) = true) {j : Nat} {t e : TypeId} {elems spare : List (DataW H)} {bytes : List UInt8}
    (ht : ts[j]? = some t) (hd : ds[j]? = some (.slice elems spare)) (hu : P.underlying t = some (.slice e)) (hx : DataW.lit (.string bytes) ∈ elems) : bytes.length ≤ reachBytes := by
  refine of_decide_eq_true (List.all_eq_true.1 h _ (DataW.weights_mem_each ht hd _ ?_))
  simp only [DataW.weights, hu, List.mem_cons, List.mem_append]
  exact Or.inr (Or.inl (weightsAll_mem hx _ (by simp [DataW.weights])))

theorem walk (op arg line : Int) (name extra : ByteArray) (mv : Value) (a : Option Addr) (n cap : Nat) (nm : Nat → ByteArray) (pv : Int) (inP : Bool) (c : Nat) (w : World)
    (hnz : name.size ≤ maxLen) (hez : extra.size ≤ maxLen) (hn : n ≤ maxLen) (hA : Names w a n nm) (hex : nm n = extra)
    (hl : Looks w mv name pv inP) (hlen : ∀ ty, (Builtin.len_ #[30] ty #[mv]).run Try.prog w = .ok (.int .i64 c) w) :
    Calls Try.prog 5 #[.int .u8 op, .int .i64 arg, .int .i64 line, .string name, mv, .slice a n cap, .string extra] w fun e w' => e = .returned (.bool true) ∧ Below w.heap.size w w' := by
  by_cases h : name.size ≤ 1048576 ∧ extra.size ≤ 1048576 ∧ n ≤ 65536 ∧ c ≤ 4096 ∧ name.size + extra.size ≤ 1048576
  · obtain ⟨h1, h2, h3, h4, h5⟩ := h
    cases inP with
    | true => exact walk_p op arg line name extra mv a n cap nm pv c w h1 h2 h3 h4 h5 hA hex hl hlen
    | false => exact walk_n op arg line name extra mv a n cap nm pv c w h1 h2 h3 h4 h5 hA hex hl hlen
  · exact walk_out op arg line name extra mv a n cap c w hnz hez hn hlen h

set_option maxRecDepth 100000 in
theorem lifted (os : Os) (started : os.Started) (H : Type) (enc : TypeId × Value → H) :
    ReturnsInHanded {} Try.checked os 5 .any (Rows.fnCalleeAgreesWithAppendedNativeSpec.pre6 enc Try.prog Try.f5 Rows.fnCalleeAgreesWithAppendedNativeRow.domain false) (Rows.fnCalleeAgreesWithAppendedNativeSpec.post enc Try.prog Try.f5 false true false false) := by
  refine returnsInHanded_of_change_sized (C := Try.checked) own started (by kernel_rfl) Try.func5
    (ChangeSpec.witness6 (enc := enc) (C := Try.checked) false ⟨#[], #[.int .u8 0, .int .i64 0, .int .i64 0, .string ByteArray.empty, .map none, .slice none 0 0, .string ByteArray.empty], []⟩ 8 (by kernel_rfl) (by kernel_rfl) (by kernel_rfl) (by kernel_rfl)) ?_
  intro W base args ds gs before hval0 hW _ hsz0 _
  have hsz : (DataW.weightsEach Try.prog (Try.f5.params.toList ++ Rows.fnCalleeAgreesWithAppendedNativeSpec.plain.varTypes Try.prog) (ds ++ gs)).all (· ≤ reachBytes) = true := hsz0
  clear hsz0
  have hval : ∀ (j : Nat) t v, Try.f5.params[j]? = some t → args[j]? = some v → Value.okWide Try.prog W .any base t v := hval0
  have hW' := hW
  obtain ⟨p, q, hA0, hV, rfl, hfz, hnd⟩ := hW
  have hA : DataW.TrodAll enc Try.prog W 0 (fun _ => true) true Try.f5.params.toList args.toList ds p := hA0
  rw [Try.params5] at hA hval hsz
  obtain ⟨v0, vs0, d0, ds0, p0, q0, hargs, rfl, rfl, h0, r0⟩ := trodAll_cons hA
  obtain ⟨v1, vs1, d1, ds1, p1, q1, rfl, rfl, rfl, h1, r1⟩ := trodAll_cons r0
  obtain ⟨v2, vs2, d2, ds2, p2, q2, rfl, rfl, rfl, h2, r2⟩ := trodAll_cons r1
  obtain ⟨v3, vs3, d3, ds3, p3, q3, rfl, rfl, rfl, h3, r3⟩ := trodAll_cons r2
  obtain ⟨v4, vs4, d4, ds4, p4, q4, rfl, rfl, rfl, h4, r4⟩ := trodAll_cons r3
  obtain ⟨v5, vs5, d5, ds5, p5, q5, rfl, rfl, rfl, h5, r5⟩ := trodAll_cons r4
  obtain ⟨v6, vs6, d6, ds6, p6, q6, rfl, rfl, rfl, h6, r6⟩ := trodAll_cons r5
  obtain ⟨rfl, rfl, rfl⟩ := trodAll_nil r6
  obtain rfl : args = #[v0, v1, v2, v3, v4, v5, v6] := by cases args; simp_all
  obtain ⟨rfl, rfl⟩ := trodVars_none hV
  obtain ⟨a0, rfl, rfl, rfl, w0⟩ := open_int Try.underlying5 (hval 0 5 v0 rfl rfl) h0
  obtain ⟨a1, rfl, rfl, rfl, w1⟩ := open_int Try.underlying2 (hval 1 2 v1 rfl rfl) h1
  obtain ⟨a2, rfl, rfl, rfl, w2⟩ := open_int Try.underlying3 (hval 2 3 v2 rfl rfl) h2
  obtain ⟨a3, rfl, rfl, rfl, w3⟩ := open_string Try.underlying9 (hval 3 9 v3 rfl rfl) h3
  obtain ⟨a4, rfl⟩ := okWide_map Try.underlying30 (hval 4 30 v4 rfl rfl)
  obtain ⟨a5, len5, cap5, rfl⟩ := okWide_slice Try.underlying31 (hval 5 31 v5 rfl rfl)
  obtain ⟨a6, rfl, rfl, rfl, w6⟩ := open_string Try.underlying9 (hval 6 9 v6 rfl rfl) h6
  have k4 := h4
  have k5 := h5
  have lt4 : ∀ x ∈ p4, x.block < W.heap.size := by obtain ⟨m, hm⟩ := k4; exact DataW.trod_lt m _ _ _ hm
  have lt5 : ∀ x ∈ p5, x.block < W.heap.size := by obtain ⟨m, hm⟩ := k5; exact DataW.trod_lt m _ _ _ hm
  obtain ⟨pv, inP, c, hlk, hlen⟩ : ∃ (pv : Int) (inP : Bool) (c : Nat), Looks W (.map a4) a3 pv inP ∧ ∀ ty, (Builtin.len_ #[30] ty #[.map a4]).run Try.prog W = .ok (.int .i64 c) W := by
    obtain ⟨fuel, hf⟩ := h4
    exact of_map (by simpa [Value.cells] using hf) a3 w3
  obtain ⟨nm, hnm, hx, hl5⟩ : ∃ nm, Names W a5 len5 nm ∧ nm len5 = a6 ∧ len5 ≤ maxLen := by
    obtain ⟨fuel, hf⟩ := h5
    rcases open_strings Try.underlying31 Try.underlying9 (by kernel_rfl) hf with ⟨hcs, _⟩ | ⟨x, l, cc, ss, hcs, _, hl, hm, hz, hd, hcell, _⟩
    · simp [Value.cells] at hcs
      obtain ⟨rfl, rfl, rfl⟩ := hcs
      exact ⟨fun _ => a6, fun i hi => by omega, rfl, Nat.zero_le _⟩
    · simp [Value.cells] at hcs
      obtain ⟨rfl, rfl, rfl⟩ := hcs
      have hz' : ss.length = cap5 := by simpa using hz
      simp only [Prod.mk.injEq] at hd
      obtain ⟨rfl, _⟩ := hd
      refine ⟨fun j => if j < len5 then ss.getD j ByteArray.empty else a6, fun i hi => ?_, by simp, Nat.le_trans hl hm⟩
      obtain ⟨b, off, spot⟩ := x
      have hc0 := hcell 0 (by omega)
      have hspot : spot = none := by simpa [Addr.add] using World.cell?_spot hc0
      subst hspot
      refine ⟨b, off, rfl, World.block_lt_of_cell? _ _ hc0, fun j hj => ?_, fun j hj => ?_⟩
      · show W.cell? _ = some (.string (if j < len5 then ss.getD j ByteArray.empty else a6))
        rw [← Go.WideShapes.add_plain, if_pos hj]; exact hcell j (by omega)
      · show (if j < len5 then ss.getD j ByteArray.empty else a6).size ≤ _
        rw [if_pos hj]
        have hmem : (DataW.lit (.string (ss.getD j ByteArray.empty).data.toList) : DataW H) ∈ strs (ss.take len5) := by
          unfold strs
          refine List.mem_map.2 ⟨ss.getD j ByteArray.empty, ?_, rfl⟩
          have : (ss.take len5)[j]? = some (ss.getD j ByteArray.empty) := by simp [hj, List.getD, show j < ss.length by omega]
          exact List.mem_of_getElem? this
        have hb := sized_inner hsz (j := 5) rfl rfl Try.underlying31 hmem
        have hr := reachBytes_lt
        have hs : (ss.getD j ByteArray.empty).data.toList.length = (ss.getD j ByteArray.empty).size := by rw [Array.length_toList]; rfl
        omega
  clear hA0 hval0
  refine (walk a0 a1 a2 a3 a6 (.map a4) a5 len5 cap5 nm pv inP c W w3 w6 hl5 hnm hx hlk hlen).mono fun e W' ⟨he, bel⟩ => ?_
  subst he
  exact ⟨_, rfl, _, _, _, [], _, [], hW', trodAll_mk1 (shut_bool Try.underlying4 _), (trodAll_cons_mk (shut_int Try.underlying5 w0) (trodAll_cons_mk (shut_int Try.underlying2 w1) (trodAll_cons_mk (shut_int Try.underlying3 w2) (trodAll_cons_mk (shut_string Try.underlying9 w3)
    (trodAll_cons_mk (Below.trod laidOut (by kernel_rfl) (of_decide_eq_true (by kernel_rfl)) k4 bel lt4) (trodAll_cons_mk (Below.trod laidOut (by kernel_rfl) (of_decide_eq_true (by kernel_rfl)) k5 bel lt5) (trodAll_cons_mk (shut_string Try.underlying9 w6) trodAll_mk0))))))), rfl, bel.frame _, fun h => by cases h⟩

theorem over : Rows.fnCalleeAgreesWithAppendedNativeRow.holds Try.pinned (OpenSpec.ofChange Rows.fnCalleeAgreesWithAppendedNativeSpec) :=
  OpenClaim.holds_of_wide 5 Try.f5 rfl rfl rfl rfl rfl rfl rfl ⟨rfl, rfl, rfl, rfl, rfl⟩ rfl rfl rfl rfl rfl (by kernel_rfl) Try.func5 (by kernel_rfl)
    (of_decide_eq_true (by kernel_rfl)) (by unfold Func.isWrapper; first | (rw [if_pos (by decide +kernel)]; kernel_rfl) | (rw [if_neg (by decide +kernel)]; exact ⟨rfl, rfl⟩))
    (fun os started H enc _ => lifted os started H enc)
end Go.Proofs.Qxb6621649a.callee
namespace Go.Proofs.Qxb6621649a
/-- THE STATEMENT. -/
theorem calleeAgrees_proved : Rows.FnCalleeAgreesWithAppendedNativeSaid := callee.over
end Go.Proofs.Qxb6621649a
