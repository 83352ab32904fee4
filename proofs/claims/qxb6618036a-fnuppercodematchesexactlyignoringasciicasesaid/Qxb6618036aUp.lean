/-
  upperCode and ZZUpperCode by contracts.
-/
import Derived.Test.Qxb6618036aRows
import Derived.WalkKit
import Derived.WalkSpells
import Derived.WalkLawsBesides
import Derived.Lib.Strings
namespace Go.Proofs.Qxb6618036a
open Go.RowKit
set_option linter.unusedVariables false

/-- A byte in upper case, as a number. -/
def upI (c : Int) : Int := if 97 ≤ c ∧ c ≤ 122 then c - 32 else c

def agg3 (a b c : Int) : Value := .agg #[.int .u8 a, .int .u8 b, .int .u8 c]

set_option maxHeartbeats 1000000 in
theorem upper_no (s : ByteArray) (w : World) (h : ((s.size : Int) != 3) = true) :
    Calls Try.prog 10 #[.string s] w fun e w' => e = .returned (.tuple #[.agg #[.int .u8 0, .int .u8 0, .int .u8 0], .bool false]) ∧ w' = (w.alloc (.cells #[.int .u8 0, .int .u8 0, .int .u8 0] 24)).alloc (.cells #[.int .u8 0, .int .u8 0, .int .u8 0] 24) := by
  go_enter Try.func10, Try.ntmps10
  go_wp2
  exact bodyPost_ret (v := .tuple #[.agg #[.int .u8 0, .int .u8 0, .int .u8 0], .bool false]) (by simp [results, Try.results10, go_sem]) rfl ⟨rfl, rfl⟩

theorem at0 (c0 c1 c2 : UInt8) (h : 0 < (⟨#[c0, c1, c2]⟩ : ByteArray).size) : (⟨#[c0, c1, c2]⟩ : ByteArray)[0] = c0 := rfl
theorem at1 (c0 c1 c2 : UInt8) (h : 1 < (⟨#[c0, c1, c2]⟩ : ByteArray).size) : (⟨#[c0, c1, c2]⟩ : ByteArray)[1] = c1 := rfl
theorem at2 (c0 c1 c2 : UInt8) (h : 2 < (⟨#[c0, c1, c2]⟩ : ByteArray).size) : (⟨#[c0, c1, c2]⟩ : ByteArray)[2] = c2 := rfl

theorem up_yes {c : Int} (h1 : 97 ≤ c) (h2 : c ≤ 122) : upI c = c - 32 := if_pos ⟨h1, h2⟩
theorem up_no {c : Int} (h : ¬ (97 ≤ c ∧ c ≤ 122)) : upI c = c := if_neg h

/-- What the array holds behind k rounds. -/
def V (k j : Nat) (c : UInt8) : Value := .int .u8 (if j < k then upI c.toNat else 0)
theorem V_mt (k j : Nat) (c : UInt8) (h : k ≤ j) : V k j c = .int .u8 0 := by unfold V; rw [if_neg (by omega)]
theorem V_in (k j : Nat) (c : UInt8) (h : j < k) : V k j c = .int .u8 (upI c.toNat) := by unfold V; rw [if_pos h]

set_option maxHeartbeats 1000000 in
set_option maxRecDepth 100000 in
theorem upper_yes (c0 c1 c2 : UInt8) (w : World) :
    Calls Try.prog 10 #[.string ⟨#[c0, c1, c2]⟩] w fun e w' => e = .returned (.tuple #[.agg #[.int .u8 (upI c0.toNat), .int .u8 (upI c1.toNat), .int .u8 (upI c2.toNat)], .bool true]) ∧ w' = (w.alloc (.cells #[.int .u8 (upI c0.toNat), .int .u8 (upI c1.toNat), .int .u8 (upI c2.toNat)] 24)).alloc (.cells #[.int .u8 (upI c0.toNat), .int .u8 (upI c1.toNat), .int .u8 (upI c2.toNat)] 24) := by
  have e0 := at0 c0 c1 c2
  have e1 := at1 c0 c1 c2
  have e2 := at2 c0 c1 c2
  go_enter Try.func10, Try.ntmps10
  go_wp2
  go_loopw [11] (fun i wr => ∃ k : Nat, k ≤ 3 ∧ i = .int .i64 k ∧ wr = (w.alloc (.cells #[.int .u8 0, .int .u8 0, .int .u8 0] 24)).alloc (.cells #[V k 0 c0, V k 1 c1, V k 2 c2] 24)) (fun i _ => 3 - (intOf i).toNat)
  case atStart => exact ⟨0, by omega, rfl, rfl⟩
  case round =>
    obtain ⟨k, hk, rfl, rfl⟩ := hrel
    rcases (by omega : k = 0 ∨ k = 1 ∨ k = 2 ∨ k = 3) with rfl | rfl | rfl | rfl
    · have q0 := V_mt 0 0 c0 (by omega)
      have q1 := V_mt 0 1 c1 (by omega)
      have q2 := V_mt 0 2 c2 (by omega)
      have b0 : (c0.toNat : Int) < 256 := by have := c0.toNat_lt; omega
      by_cases h : 97 ≤ (c0.toNat : Int)
      · by_cases h2 : (c0.toNat : Int) ≤ 122
        · go_wp2
          go_roundw
          case rel => exact ⟨1, by omega, rfl, by rw [V_in 1 0 c0 (by omega), V_mt 1 1 c1 (by omega), V_mt 1 2 c2 (by omega), up_yes h h2]⟩
          case measure => simp [intOf]
        · go_wp2
          go_roundw
          case rel => exact ⟨1, by omega, rfl, by rw [V_in 1 0 c0 (by omega), V_mt 1 1 c1 (by omega), V_mt 1 2 c2 (by omega), up_no (c := c0.toNat) (by omega)]⟩
          case measure => simp [intOf]
      · go_wp2
        go_roundw
        case rel => exact ⟨1, by omega, rfl, by rw [V_in 1 0 c0 (by omega), V_mt 1 1 c1 (by omega), V_mt 1 2 c2 (by omega), up_no (c := c0.toNat) (by omega)]⟩
        case measure => simp [intOf]
    · have q0 := V_in 1 0 c0 (by omega)
      have q1 := V_mt 1 1 c1 (by omega)
      have q2 := V_mt 1 2 c2 (by omega)
      have b0 : (c1.toNat : Int) < 256 := by have := c1.toNat_lt; omega
      by_cases h : 97 ≤ (c1.toNat : Int)
      · by_cases h2 : (c1.toNat : Int) ≤ 122
        · go_wp2
          go_roundw
          case rel => exact ⟨2, by omega, rfl, by rw [V_in 2 0 c0 (by omega), V_in 2 1 c1 (by omega), V_mt 2 2 c2 (by omega), up_yes h h2]⟩
          case measure => simp [intOf]
        · go_wp2
          go_roundw
          case rel => exact ⟨2, by omega, rfl, by rw [V_in 2 0 c0 (by omega), V_in 2 1 c1 (by omega), V_mt 2 2 c2 (by omega), up_no (c := c1.toNat) (by omega)]⟩
          case measure => simp [intOf]
      · go_wp2
        go_roundw
        case rel => exact ⟨2, by omega, rfl, by rw [V_in 2 0 c0 (by omega), V_in 2 1 c1 (by omega), V_mt 2 2 c2 (by omega), up_no (c := c1.toNat) (by omega)]⟩
        case measure => simp [intOf]
    · have q0 := V_in 2 0 c0 (by omega)
      have q1 := V_in 2 1 c1 (by omega)
      have q2 := V_mt 2 2 c2 (by omega)
      have b0 : (c2.toNat : Int) < 256 := by have := c2.toNat_lt; omega
      by_cases h : 97 ≤ (c2.toNat : Int)
      · by_cases h2 : (c2.toNat : Int) ≤ 122
        · go_wp2
          go_roundw
          case rel => exact ⟨3, by omega, rfl, by rw [V_in 3 0 c0 (by omega), V_in 3 1 c1 (by omega), V_in 3 2 c2 (by omega), up_yes h h2]⟩
          case measure => simp [intOf]
        · go_wp2
          go_roundw
          case rel => exact ⟨3, by omega, rfl, by rw [V_in 3 0 c0 (by omega), V_in 3 1 c1 (by omega), V_in 3 2 c2 (by omega), up_no (c := c2.toNat) (by omega)]⟩
          case measure => simp [intOf]
      · go_wp2
        go_roundw
        case rel => exact ⟨3, by omega, rfl, by rw [V_in 3 0 c0 (by omega), V_in 3 1 c1 (by omega), V_in 3 2 c2 (by omega), up_no (c := c2.toNat) (by omega)]⟩
        case measure => simp [intOf]
    · have q0 := V_in 3 0 c0 (by omega)
      have q1 := V_in 3 1 c1 (by omega)
      have q2 := V_in 3 2 c2 (by omega)
      go_wp2
      refine bodyPost_ret (v := .tuple #[.agg #[.int .u8 (upI c0.toNat), .int .u8 (upI c1.toNat), .int .u8 (upI c2.toNat)], .bool true]) ?_ rfl ⟨rfl, rfl⟩
      simp [results, Try.results10, go_sem]

set_option maxHeartbeats 1000000 in
theorem zz_no (s : ByteArray) (w : World) (h : ((s.size : Int) != 3) = true) :
    Calls Try.prog 7 #[.string s] w fun e w' => e = .returned (.tuple #[.agg #[.int .u8 0, .int .u8 0, .int .u8 0], .bool false]) ∧ w' = ((w.alloc (.cells #[.int .u8 0, .int .u8 0, .int .u8 0] 24)).alloc (.cells #[.int .u8 0, .int .u8 0, .int .u8 0] 24)).alloc (.cells #[.int .u8 0, .int .u8 0, .int .u8 0] 24) := by
  have H : Hid (∀ W : World, Calls Try.prog 10 #[.string s] W fun e w' => e = .returned (.tuple #[.agg #[.int .u8 0, .int .u8 0, .int .u8 0], .bool false]) ∧ w' = (W.alloc (.cells #[.int .u8 0, .int .u8 0, .int .u8 0] 24)).alloc (.cells #[.int .u8 0, .int .u8 0, .int .u8 0] 24)) := fun W => upper_no s W h
  go_enter Try.func7, Try.ntmps7
  go_wp2_with fail
  refine (H.out _).mono ?_
  rintro e w1 ⟨rfl, rfl⟩
  go_wp2
  exact bodyPost_ret (v := .tuple #[.agg #[.int .u8 0, .int .u8 0, .int .u8 0], .bool false]) (by simp [results, Try.results7, go_sem]) rfl ⟨rfl, rfl⟩

set_option maxHeartbeats 1000000 in
theorem zz_yes (c0 c1 c2 : UInt8) (w : World) :
    Calls Try.prog 7 #[.string ⟨#[c0, c1, c2]⟩] w fun e w' => e = .returned (.tuple #[.agg #[.int .u8 (upI c0.toNat), .int .u8 (upI c1.toNat), .int .u8 (upI c2.toNat)], .bool true]) ∧ w' = ((w.alloc (.cells #[.int .u8 (upI c0.toNat), .int .u8 (upI c1.toNat), .int .u8 (upI c2.toNat)] 24)).alloc (.cells #[.int .u8 (upI c0.toNat), .int .u8 (upI c1.toNat), .int .u8 (upI c2.toNat)] 24)).alloc (.cells #[.int .u8 (upI c0.toNat), .int .u8 (upI c1.toNat), .int .u8 (upI c2.toNat)] 24) := by
  have H : Hid (∀ W : World, Calls Try.prog 10 #[.string ⟨#[c0, c1, c2]⟩] W fun e w' => e = .returned (.tuple #[.agg #[.int .u8 (upI c0.toNat), .int .u8 (upI c1.toNat), .int .u8 (upI c2.toNat)], .bool true]) ∧ w' = (W.alloc (.cells #[.int .u8 (upI c0.toNat), .int .u8 (upI c1.toNat), .int .u8 (upI c2.toNat)] 24)).alloc (.cells #[.int .u8 (upI c0.toNat), .int .u8 (upI c1.toNat), .int .u8 (upI c2.toNat)] 24)) := fun W => upper_yes c0 c1 c2 W
  generalize upI c0.toNat = u0 at *
  generalize upI c1.toNat = u1 at *
  generalize upI c2.toNat = u2 at *
  go_enter Try.func7, Try.ntmps7
  go_wp2_with fail
  refine (H.out _).mono ?_
  rintro e w1 ⟨rfl, rfl⟩
  go_wp2
  exact bodyPost_ret (v := .tuple #[.agg #[.int .u8 u0, .int .u8 u1, .int .u8 u2], .bool true]) (by simp [results, Try.results7, go_sem]) rfl ⟨rfl, rfl⟩
end Go.Proofs.Qxb6618036a
