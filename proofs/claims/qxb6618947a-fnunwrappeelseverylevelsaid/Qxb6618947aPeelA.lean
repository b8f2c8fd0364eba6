import Derived.Test.Qxb6618947aWalks
namespace Go.Proofs.Qxb6618947a.peels
open Go.ChangeShapes Go.WideShapes Go.ChangeAt Go.RowKit

/-- It answers some bool r with Q r; the world stands. -/
def Ans (Q : Bool → Prop) (w : World) (e : Ending) (w' : World) : Prop := ∃ r : Bool, e = .returned (.bool r) ∧ w = w' ∧ Q r
theorem Ans.mk {Q : Bool → Prop} {w : World} {v : Value} (r : Bool) (hv : v = .bool r) (h : Q r) : Ans Q w (.returned v) w := ⟨r, by rw [hv], rfl, h⟩

/-! ### zzBytes and zzFieldsFit: they only read, and answer some bool -/

set_option maxRecDepth 100000 in
theorem bytes_any (b off n cap : Nat) (ss : Nat → ByteArray) (c : ByteArray) (l : Int) (w : World) (hn : n ≤ maxLen) (hcz : c.size ≤ maxLen)
    (hc : ∀ i, i < n → w.cell? ⟨b, off + i, none⟩ = some (.string (ss i))) (hz : ∀ i, i < n → (ss i).size ≤ maxLen) :
    Calls Try.prog 17 #[.slice (some ⟨b, off, none⟩) n cap, .string c, .int .i64 l] w fun e w' => Ans (fun r => r = true → n ≤ 1048576) w e w' := by
  unfold maxLen at hn hcz hz
  by_cases hbig : 1048576 < n
  · go_enter Try.func17, Try.ntmps17
    go_wp2
    go_ret
    exact Ans.mk false rfl (fun h => by cases h)
  · go_enter Try.func17, Try.ntmps17
    go_wp2
    go_loop [7, 8] (fun z i => ∃ k : Nat, ∃ t : Int, k ≤ n ∧ 0 ≤ t ∧ t ≤ 1048576 ∧ i = .int .i64 k ∧ z = .int .i64 t) (fun _ i => n - (intOf i).toNat)
    case atStart => exact ⟨0, n, by omega, by omega, by omega, rfl, by go_num⟩
    case round =>
      obtain ⟨k, t, hk, ht0, ht1, rfl, rfl⟩ := hrel
      by_cases hlt : k < n
      · have hck := hc k hlt
        have hzk := hz k hlt
        by_cases h1 : 1048576 < (ss k).size
        · go_wp2
          go_ret
          exact Ans.mk false rfl (fun h => by cases h)
        by_cases h2 : 1048576 < t + (ss k).size
        · go_wp2
          go_ret
          exact Ans.mk false rfl (fun h => by cases h)
        · go_wp2
          go_round
          case rel => exact ⟨k + 1, t + (ss k).size, by omega, by omega, by omega, by go_num, by go_num⟩
          case measure => simp [intOf]; omega
      · by_cases h1 : 1048576 < c.size
        · go_wp2
          go_ret
          exact Ans.mk false rfl (fun h => by cases h)
        by_cases h2 : 1048576 < t + c.size
        · go_wp2
          go_ret
          exact Ans.mk false rfl (fun h => by cases h)
        · go_wp2
          go_ret
          exact Ans.mk true rfl (fun _ => by omega)

set_option maxRecDepth 100000 in
theorem bytes_zero (a : Option Addr) (cap : Nat) (c : ByteArray) (l : Int) (w : World) (hcz : c.size ≤ maxLen) :
    Calls Try.prog 17 #[.slice a 0 cap, .string c, .int .i64 l] w fun e w' => Ans (fun _ => True) w e w' := by
  unfold maxLen at hcz
  go_enter Try.func17, Try.ntmps17
  go_wp2
  go_loop [7, 8] (fun z i => i = .int .i64 0 ∧ z = .int .i64 0) (fun _ _ => 0)
  case atStart => exact ⟨rfl, rfl⟩
  case round =>
    obtain ⟨rfl, rfl⟩ := hrel
    by_cases h1 : 1048576 < c.size
    · go_wp2
      go_ret
      exact Ans.mk false rfl trivial
    · go_wp2
      go_ret
      exact Ans.mk true rfl trivial

set_option maxRecDepth 100000 in
theorem fit_any (b off n cap : Nat) (ss : Nat → ByteArray) (B : Int) (w : World) (hn : n ≤ maxLen) (hB0 : 0 ≤ B) (hB1 : B ≤ 1048576)
    (hc : ∀ i, i < n → w.cell? ⟨b, off + i, none⟩ = some (.string (ss i))) (hz : ∀ i, i < n → (ss i).size ≤ maxLen) :
    Calls Try.prog 18 #[.slice (some ⟨b, off, none⟩) n cap, .int .i64 B] w fun e w' => Ans (fun _ => True) w e w' := by
  unfold maxLen at hn hz
  go_enter Try.func18, Try.ntmps18
  go_wp2
  go_loop [5, 6] (fun z i => ∃ k : Nat, ∃ t : Int, k ≤ n ∧ 0 ≤ t ∧ t ≤ B ∧ i = .int .i64 k ∧ z = .int .i64 t) (fun _ i => n - (intOf i).toNat)
  case atStart => exact ⟨0, 0, by omega, by omega, by omega, rfl, by go_num⟩
  case round =>
    obtain ⟨k, t, hk, ht0, ht1, rfl, rfl⟩ := hrel
    by_cases hlt : k < n
    · have hck := hc k hlt
      have hzk := hz k hlt
      by_cases h1 : B < (ss k).size
      · go_wp2
        go_ret
        exact Ans.mk false rfl trivial
      by_cases h2 : B < t + (16 + (ss k).size)
      · go_wp2
        go_ret
        exact Ans.mk false rfl trivial
      · go_wp2
        go_round
        case rel => exact ⟨k + 1, t + (16 + (ss k).size), by omega, by omega, by omega, by go_num, by go_num⟩
        case measure => simp [intOf]; omega
    · go_wp2
      go_ret
      exact Ans.mk true rfl trivial

set_option maxRecDepth 100000 in
theorem fit_zero (a : Option Addr) (cap : Nat) (B : Int) (w : World) (hB0 : 0 ≤ B) :
    Calls Try.prog 18 #[.slice a 0 cap, .int .i64 B] w fun e w' => Ans (fun _ => True) w e w' := by
  go_enter Try.func18, Try.ntmps18
  go_wp2
  go_loop [5, 6] (fun z i => i = .int .i64 0 ∧ z = .int .i64 0) (fun _ _ => 0)
  case atStart => exact ⟨rfl, rfl⟩
  case round =>
    obtain ⟨rfl, rfl⟩ := hrel
    go_wp2
    go_ret
    exact Ans.mk true rfl trivial
end Go.Proofs.Qxb6618947a.peels
