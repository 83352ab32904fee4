/-
  The strings' part of the road of seat b6617400a: strings.CutSuffix at "*", strings.HasPrefix, zzEndsStar, zzHasPrefix, each by a contract.
-/
import Derived.Test.Qxb6617400aRows
import Derived.WalkKit
import Derived.WalkSpells
import Derived.WalkLawsBesides
import Derived.Lib.Strings
namespace Go.Proofs.Qxb6617400a
open Go.RowKit
set_option linter.unusedVariables false

/-- Does s end in a star? -/
def starB (s : ByteArray) : Bool := decide (1 ≤ s.size) && ((s.extract (s.size - 1) s.size).toList == [42])
/-- Does s begin with p? -/
def pfxB (s p : ByteArray) : Bool := decide (p.size ≤ s.size) && ((s.extract 0 p.size).toList == p.toList)
/-- s without its last star. -/
def cutB (s : ByteArray) : ByteArray := if starB s = true then s.extract 0 (s.size - 1) else s
/-- Does the entry a serve the account acc? -/
def matchB (a acc : ByteArray) : Bool := (a.toList == acc.toList) || (starB a && pfxB acc (cutB a))
def servesB (ss : List ByteArray) (acc : ByteArray) : Bool := ss.any fun a => matchB a acc

theorem ret_bool {a b : Bool} (h : a = b) : Ending.returned (.bool a) = .returned (.bool b) := by rw [h]

set_option maxHeartbeats 400000 in
theorem hasPrefix_any (s p : ByteArray) (w : World) (hs : s.size ≤ maxLen) (hp : p.size ≤ maxLen) :
    Calls Try.prog 18 #[.string s, .string p] w fun e w' => e = .returned (.bool (pfxB s p)) ∧ w' = w := by
  unfold maxLen at hs hp
  by_cases h : p.size ≤ s.size
  · go_enter Try.func18, Try.ntmps18
    go_wp2
    go_ret
    exact ⟨ret_bool (by simp [pfxB, h]), rfl⟩
  · go_enter Try.func18, Try.ntmps18
    go_wp2
    go_ret
    exact ⟨ret_bool (by simp [pfxB, h]), rfl⟩

theorem ret_two {a b : ByteArray} {x y : Bool} (h : a = b) (k : x = y) : Ending.returned (.tuple #[.string a, .bool x]) = .returned (.tuple #[.string b, .bool y]) := by rw [h, k]

set_option maxHeartbeats 400000 in
theorem cutSuffix_any (s : ByteArray) (w : World) (hs : s.size ≤ maxLen) :
    Calls Try.prog 17 #[.string s, .string ⟨#[42]⟩] w fun e w' => e = .returned (.tuple #[.string (cutB s), .bool (starB s)]) ∧ w' = w := by
  unfold maxLen at hs
  by_cases h : 1 ≤ s.size
  · cases hb : ((s.extract (s.size - 1) s.size).toList == [42]) with
    | true =>
      go_enter Try.func17, Try.ntmps17
      go_wp2
      go_ret2
      exact ⟨ret_two (by simp [cutB, starB, h, hb]) (by simp [starB, h, hb]), rfl⟩
    | false =>
      go_enter Try.func17, Try.ntmps17
      go_wp2
      go_ret2
      exact ⟨ret_two (by simp [cutB, starB, hb]) (by simp [starB, hb]), rfl⟩
  · go_enter Try.func17, Try.ntmps17
    go_wp2
    go_ret2
    exact ⟨ret_two (by simp [cutB, starB, h]) (by simp [starB, h]), rfl⟩

theorem starB_last (s : ByteArray) (h : s.size - 1 < s.size) : starB s = ((s[s.size - 1].toNat : Int) == 42) := by
  unfold starB
  have h1 : 1 ≤ s.size := by omega
  have e : (s.extract (s.size - 1) s.size).toList = [s[s.size - 1]] := by
    rw [Lib.extract_toList]
    have hl : s.data.toList.length = s.size := (Lib.size_eq s).symm
    rw [List.drop_eq_getElem_cons (by omega)]
    rw [show s.size - (s.size - 1) = 1 from by omega]
    simp
    rfl
  rw [e]
  simp only [h1, decide_true, Bool.true_and]
  rw [Bool.eq_iff_iff]
  simp only [beq_iff_eq, List.cons.injEq, and_true]
  constructor
  · intro h; rw [h]; rfl
  · intro h
    have : s[s.size - 1].toNat = 42 := by omega
    exact UInt8.toNat_inj.1 this

set_option maxHeartbeats 400000 in
theorem endsStar_any (s : ByteArray) (w : World) (hs : s.size ≤ maxLen) :
    Calls Try.prog 8 #[.string s] w fun e w' => e = .returned (.bool (starB s)) ∧ w' = w := by
  unfold maxLen at hs
  by_cases h : 1 ≤ s.size
  · have hl : s.size - 1 < s.size := by omega
    have HS : Hid (starB s = ((s[s.size - 1].toNat : Int) == 42)) := starB_last s hl
    go_enter Try.func8, Try.ntmps8
    go_wp2
    go_ret
    exact ⟨ret_bool HS.out.symm, rfl⟩
  · go_enter Try.func8, Try.ntmps8
    go_wp2
    go_ret
    exact ⟨ret_bool (by simp [starB, h]), rfl⟩
end Go.Proofs.Qxb6617400a
