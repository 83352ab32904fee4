/-
  isJSONSpace, sameBytes and the size guard by contracts.
-/
import Derived.Test.Qxb6618168aSpace
namespace Go.Proofs.Qxb6618168a
open Go.RowKit
set_option linter.unusedVariables false

set_option maxHeartbeats 1000000 in
theorem isSpace_any (x : Int) (w : World) : Calls Try.prog 11 #[.int .u8 x] w fun e w' => e = .returned (.bool (spB x)) ∧ w' = w := by
  cases h1 : (x == 32) with
  | true =>
    have H : Hid (spB x = true) := spB_1 h1
    go_enter Try.func11, Try.ntmps11
    go_wp2
    go_ret
    exact ⟨ret_bool H.out.symm, rfl⟩
  | false =>
    cases h2 : (x == 9) with
    | true =>
      have H : Hid (spB x = true) := spB_2 h2
      go_enter Try.func11, Try.ntmps11
      go_wp2
      go_ret
      exact ⟨ret_bool H.out.symm, rfl⟩
    | false =>
      cases h3 : (x == 10) with
      | true =>
        have H : Hid (spB x = true) := spB_3 h3
        go_enter Try.func11, Try.ntmps11
        go_wp2
        go_ret
        exact ⟨ret_bool H.out.symm, rfl⟩
      | false =>
        cases h4 : (x == 13) with
        | true =>
          have H : Hid (spB x = true) := spB_4 h4
          go_enter Try.func11, Try.ntmps11
          go_wp2
          go_ret
          exact ⟨ret_bool H.out.symm, rfl⟩
        | false =>
          have H : Hid (spB x = false) := spB_no h1 h2 h3 h4
          go_enter Try.func11, Try.ntmps11
          go_wp2
          go_ret
          exact ⟨ret_bool H.out.symm, rfl⟩

/-- It returned some bool. -/
def SomeBool (e : Ending) : Prop := ∃ x, e = .returned (.bool x)
theorem SomeBool.mk (x : Bool) : SomeBool (.returned (.bool x)) := ⟨x, rfl⟩

set_option maxHeartbeats 1000000 in
theorem bytes9_any (ao lo : Option Addr) (n c ln lc : Nat) (off depth k : Int) (watch : Bool) (w : World) (hn : n ≤ maxLen) (hln : ln ≤ maxLen) :
    Calls Try.prog 9 #[.slice ao n c, .int .i64 off, .int .i64 depth, .bool watch, .slice lo ln lc, .int .i64 k] w fun e w' => SomeBool e ∧ w' = w := by
  unfold maxLen at hn hln
  go_enter Try.func9, Try.ntmps9
  go_wp2
  all_goals
    go_ret
    exact ⟨SomeBool.mk _, rfl⟩

set_option maxHeartbeats 1000000 in
theorem same_any (ao : Option Addr) (n c : Nat) (D : List Int) (w : World) (hB : Bytes w ao n D) (hn : n ≤ 1048576) :
    Calls Try.prog 12 #[.slice ao n c, .slice ao n c] w fun e w' => e = .returned (.bool true) ∧ Below w.heap.size w w' := by
  obtain ⟨b, o, ha, hc⟩ := hB.parts
  clear hB
  have hq : ∀ W, (binOp .eql 22 (.slice ao n c) (.slice none 0 0)).run Try.prog W = .ok (.bool ao.isNone) W := fun W => Lib.run_eql_slice_nil W 22 5 ao n c 0 0 Try.underlying22
  generalize ao.isNone = q at *
  have hqq : (q != q) = false := by simp
  go_enter Try.func12, Try.ntmps12
  go_wp2
  go_loopw [5] (fun si wr => ∃ k : Nat, k ≤ n ∧ si = .int .i64 k ∧ Below w.heap.size w wr) (fun si _ => n - (intOf si).toNat)
  case atStart => exact ⟨0, Nat.zero_le _, rfl, Below.refl _ _⟩
  case round =>
    obtain ⟨k, hk, rfl, hb⟩ := hrel
    by_cases hlt : k < n
    · obtain rfl : ao = some ⟨b, o, none⟩ := ha (by omega)
      have hcx := cell_later hb (hc k hlt)
      clear hc ha
      go_wp2
      go_quiet (fail)
      go_wp2
      go_roundw
      case rel => exact ⟨k + 1, by omega, by go_num, below_drewN hb _⟩
      case measure => simp [intOf]; omega
    · go_wp2
      go_ret
      exact ⟨rfl, hb⟩
end Go.Proofs.Qxb6618168a
