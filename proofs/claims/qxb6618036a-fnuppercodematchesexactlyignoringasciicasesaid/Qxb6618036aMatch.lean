/-
  The walk of FnUpperCodeMatchesExactlyIgnoringASCIICase: four cases, by which of the two strings is three bytes long.
-/
import Derived.Test.Qxb6618036aSame
namespace Go.Proofs.Qxb6618036a
open Go.RowKit
set_option linter.unusedVariables false

theorem three_of (s : ByteArray) (h : s.size = 3) : ∃ c0 c1 c2, s = ⟨#[c0, c1, c2]⟩ := by
  obtain ⟨⟨l⟩⟩ := s
  have hl : l.length = 3 := h
  match l, hl with
  | [a, b, c], _ => exact ⟨a, b, c, rfl⟩

set_option maxHeartbeats 2000000 in
theorem match_nn (a : ByteArray) (b : ByteArray) (w : World) (hsa : a.size ≤ maxLen) (ha : ((a.size : Int) == 3) = false) (ha2 : ((a.size : Int) != 3) = true) (hsb : b.size ≤ maxLen) (hb : ((b.size : Int) == 3) = false) (hb2 : ((b.size : Int) != 3) = true) :
    Calls Try.prog 4 #[.string a, .string b] w fun e w' => e = .returned (.bool true) ∧ Below w.heap.size w w' := by
  have HA : Hid (∀ W : World, Calls Try.prog 7 #[.string a] W fun e w' => e = .returned (.tuple #[.agg #[.int .u8 0, .int .u8 0, .int .u8 0], .bool false]) ∧ w' = ((W.alloc (.cells #[.int .u8 0, .int .u8 0, .int .u8 0] 24)).alloc (.cells #[.int .u8 0, .int .u8 0, .int .u8 0] 24)).alloc (.cells #[.int .u8 0, .int .u8 0, .int .u8 0] 24)) := fun W => zz_no a W ha2
  have HB : Hid (∀ W : World, Calls Try.prog 7 #[.string b] W fun e w' => e = .returned (.tuple #[.agg #[.int .u8 0, .int .u8 0, .int .u8 0], .bool false]) ∧ w' = ((W.alloc (.cells #[.int .u8 0, .int .u8 0, .int .u8 0] 24)).alloc (.cells #[.int .u8 0, .int .u8 0, .int .u8 0] 24)).alloc (.cells #[.int .u8 0, .int .u8 0, .int .u8 0] 24)) := fun W => zz_no b W hb2
  have H8 : Hid (Calls Try.prog 8 #[.string a, .string b] w fun e w' => SomeBool e ∧ w' = w) := bytes8_any _ _ w hsa hsb
  clear hsa
  clear hsb
  have heq : ∀ W, (Op.equalIn 10000 24 (.agg #[.int .u8 0, .int .u8 0, .int .u8 0]) (.agg #[.int .u8 0, .int .u8 0, .int .u8 0])).run Try.prog W = .ok true W := fun W => run_eq3 0 0 0 0 0 0 W
  go_enter Try.func4, Try.ntmps4
  go_wp2_with fail
  refine H8.out.mono ?_
  rintro e w' ⟨⟨x, rfl⟩, hw⟩
  obtain rfl := hw.symm
  clear hw H8
  cases x
  · go_wp2
    go_ret
    exact ⟨rfl, Below.refl _ _⟩
  by_cases hla : (65536 : Int) < (a.size : Int)
  · go_wp2
    go_ret
    exact ⟨rfl, Below.refl _ _⟩
  by_cases hlb : (65536 : Int) < (b.size : Int)
  · go_wp2
    go_ret
    exact ⟨rfl, Below.refl _ _⟩
  go_wp2_with fail
  refine (HA.out _).mono ?_
  rintro e w2 ⟨rfl, rfl⟩
  go_wp2_with fail
  refine (HB.out _).mono ?_
  rintro e w3 ⟨rfl, rfl⟩
  clear HA HB
  go_wp2
  go_ret
  exact ⟨rfl, (((((((((Below.refl _ _).alloc (by omega) _).alloc (by simp <;> omega) _).alloc (by simp <;> omega) _).alloc (by simp <;> omega) _).alloc (by simp <;> omega) _).alloc (by simp <;> omega) _).alloc (by simp <;> omega) _).alloc (by simp <;> omega) _)⟩

set_option maxHeartbeats 2000000 in
theorem match_yn (c0 c1 c2 : UInt8) (b : ByteArray) (w : World) (hsb : b.size ≤ maxLen) (hb : ((b.size : Int) == 3) = false) (hb2 : ((b.size : Int) != 3) = true) :
    Calls Try.prog 4 #[.string ⟨#[c0, c1, c2]⟩, .string b] w fun e w' => e = .returned (.bool true) ∧ Below w.heap.size w w' := by
  have HA : Hid (∀ W : World, Calls Try.prog 7 #[.string ⟨#[c0, c1, c2]⟩] W fun e w' => e = .returned (.tuple #[.agg #[.int .u8 (upI c0.toNat), .int .u8 (upI c1.toNat), .int .u8 (upI c2.toNat)], .bool true]) ∧ w' = ((W.alloc (.cells #[.int .u8 (upI c0.toNat), .int .u8 (upI c1.toNat), .int .u8 (upI c2.toNat)] 24)).alloc (.cells #[.int .u8 (upI c0.toNat), .int .u8 (upI c1.toNat), .int .u8 (upI c2.toNat)] 24)).alloc (.cells #[.int .u8 (upI c0.toNat), .int .u8 (upI c1.toNat), .int .u8 (upI c2.toNat)] 24)) := fun W => zz_yes c0 c1 c2 W
  have HB : Hid (∀ W : World, Calls Try.prog 7 #[.string b] W fun e w' => e = .returned (.tuple #[.agg #[.int .u8 0, .int .u8 0, .int .u8 0], .bool false]) ∧ w' = ((W.alloc (.cells #[.int .u8 0, .int .u8 0, .int .u8 0] 24)).alloc (.cells #[.int .u8 0, .int .u8 0, .int .u8 0] 24)).alloc (.cells #[.int .u8 0, .int .u8 0, .int .u8 0] 24)) := fun W => zz_no b W hb2
  have H8 : Hid (Calls Try.prog 8 #[.string ⟨#[c0, c1, c2]⟩, .string b] w fun e w' => SomeBool e ∧ w' = w) := bytes8_any _ _ w (by show 3 ≤ _; unfold maxLen; omega) hsb
  clear hsb
  go_enter Try.func4, Try.ntmps4
  go_wp2_with fail
  refine H8.out.mono ?_
  rintro e w' ⟨⟨x, rfl⟩, hw⟩
  obtain rfl := hw.symm
  clear hw H8
  cases x
  · go_wp2
    go_ret
    exact ⟨rfl, Below.refl _ _⟩
  by_cases hlb : (65536 : Int) < (b.size : Int)
  · go_wp2
    go_ret
    exact ⟨rfl, Below.refl _ _⟩
  go_wp2_with fail
  refine (HA.out _).mono ?_
  rintro e w2 ⟨rfl, rfl⟩
  go_wp2_with fail
  refine (HB.out _).mono ?_
  rintro e w3 ⟨rfl, rfl⟩
  clear HA HB
  go_wp2
  go_ret
  exact ⟨rfl, (((((((((Below.refl _ _).alloc (by omega) _).alloc (by simp <;> omega) _).alloc (by simp <;> omega) _).alloc (by simp <;> omega) _).alloc (by simp <;> omega) _).alloc (by simp <;> omega) _).alloc (by simp <;> omega) _).alloc (by simp <;> omega) _)⟩

set_option maxHeartbeats 2000000 in
theorem match_ny (a : ByteArray) (s0 s1 s2 : UInt8) (w : World) (hsa : a.size ≤ maxLen) (ha : ((a.size : Int) == 3) = false) (ha2 : ((a.size : Int) != 3) = true) :
    Calls Try.prog 4 #[.string a, .string ⟨#[s0, s1, s2]⟩] w fun e w' => e = .returned (.bool true) ∧ Below w.heap.size w w' := by
  have HA : Hid (∀ W : World, Calls Try.prog 7 #[.string a] W fun e w' => e = .returned (.tuple #[.agg #[.int .u8 0, .int .u8 0, .int .u8 0], .bool false]) ∧ w' = ((W.alloc (.cells #[.int .u8 0, .int .u8 0, .int .u8 0] 24)).alloc (.cells #[.int .u8 0, .int .u8 0, .int .u8 0] 24)).alloc (.cells #[.int .u8 0, .int .u8 0, .int .u8 0] 24)) := fun W => zz_no a W ha2
  have HB : Hid (∀ W : World, Calls Try.prog 7 #[.string ⟨#[s0, s1, s2]⟩] W fun e w' => e = .returned (.tuple #[.agg #[.int .u8 (upI s0.toNat), .int .u8 (upI s1.toNat), .int .u8 (upI s2.toNat)], .bool true]) ∧ w' = ((W.alloc (.cells #[.int .u8 (upI s0.toNat), .int .u8 (upI s1.toNat), .int .u8 (upI s2.toNat)] 24)).alloc (.cells #[.int .u8 (upI s0.toNat), .int .u8 (upI s1.toNat), .int .u8 (upI s2.toNat)] 24)).alloc (.cells #[.int .u8 (upI s0.toNat), .int .u8 (upI s1.toNat), .int .u8 (upI s2.toNat)] 24)) := fun W => zz_yes s0 s1 s2 W
  have H8 : Hid (Calls Try.prog 8 #[.string a, .string ⟨#[s0, s1, s2]⟩] w fun e w' => SomeBool e ∧ w' = w) := bytes8_any _ _ w hsa (by show 3 ≤ _; unfold maxLen; omega)
  clear hsa
  go_enter Try.func4, Try.ntmps4
  go_wp2_with fail
  refine H8.out.mono ?_
  rintro e w' ⟨⟨x, rfl⟩, hw⟩
  obtain rfl := hw.symm
  clear hw H8
  cases x
  · go_wp2
    go_ret
    exact ⟨rfl, Below.refl _ _⟩
  by_cases hla : (65536 : Int) < (a.size : Int)
  · go_wp2
    go_ret
    exact ⟨rfl, Below.refl _ _⟩
  go_wp2_with fail
  refine (HA.out _).mono ?_
  rintro e w2 ⟨rfl, rfl⟩
  go_wp2_with fail
  refine (HB.out _).mono ?_
  rintro e w3 ⟨rfl, rfl⟩
  clear HA HB
  go_wp2
  go_ret
  exact ⟨rfl, (((((((((Below.refl _ _).alloc (by omega) _).alloc (by simp <;> omega) _).alloc (by simp <;> omega) _).alloc (by simp <;> omega) _).alloc (by simp <;> omega) _).alloc (by simp <;> omega) _).alloc (by simp <;> omega) _).alloc (by simp <;> omega) _)⟩

set_option maxHeartbeats 2000000 in
theorem match_yy (c0 c1 c2 : UInt8) (s0 s1 s2 : UInt8) (w : World) :
    Calls Try.prog 4 #[.string ⟨#[c0, c1, c2]⟩, .string ⟨#[s0, s1, s2]⟩] w fun e w' => e = .returned (.bool true) ∧ Below w.heap.size w w' := by
  have HA : Hid (∀ W : World, Calls Try.prog 7 #[.string ⟨#[c0, c1, c2]⟩] W fun e w' => e = .returned (.tuple #[.agg #[.int .u8 (upI c0.toNat), .int .u8 (upI c1.toNat), .int .u8 (upI c2.toNat)], .bool true]) ∧ w' = ((W.alloc (.cells #[.int .u8 (upI c0.toNat), .int .u8 (upI c1.toNat), .int .u8 (upI c2.toNat)] 24)).alloc (.cells #[.int .u8 (upI c0.toNat), .int .u8 (upI c1.toNat), .int .u8 (upI c2.toNat)] 24)).alloc (.cells #[.int .u8 (upI c0.toNat), .int .u8 (upI c1.toNat), .int .u8 (upI c2.toNat)] 24)) := fun W => zz_yes c0 c1 c2 W
  have HB : Hid (∀ W : World, Calls Try.prog 7 #[.string ⟨#[s0, s1, s2]⟩] W fun e w' => e = .returned (.tuple #[.agg #[.int .u8 (upI s0.toNat), .int .u8 (upI s1.toNat), .int .u8 (upI s2.toNat)], .bool true]) ∧ w' = ((W.alloc (.cells #[.int .u8 (upI s0.toNat), .int .u8 (upI s1.toNat), .int .u8 (upI s2.toNat)] 24)).alloc (.cells #[.int .u8 (upI s0.toNat), .int .u8 (upI s1.toNat), .int .u8 (upI s2.toNat)] 24)).alloc (.cells #[.int .u8 (upI s0.toNat), .int .u8 (upI s1.toNat), .int .u8 (upI s2.toNat)] 24)) := fun W => zz_yes s0 s1 s2 W
  have H8 : Hid (Calls Try.prog 8 #[.string ⟨#[c0, c1, c2]⟩, .string ⟨#[s0, s1, s2]⟩] w fun e w' => SomeBool e ∧ w' = w) := bytes8_any _ _ w (by show 3 ≤ _; unfold maxLen; omega) (by show 3 ≤ _; unfold maxLen; omega)
  have HE : Hid (∀ W : World, Calls Try.prog 9 #[.string ⟨#[c0, c1, c2]⟩, .string ⟨#[s0, s1, s2]⟩] W fun e w' => e = .returned (.bool (upI c0.toNat == upI s0.toNat && upI c1.toNat == upI s1.toNat && upI c2.toNat == upI s2.toNat)) ∧ w' = W) := fun W => by
    have := equal_any c0 c1 c2 s0 s1 s2 W
    rw [eqB_up, eqB_up, eqB_up] at this
    exact this
  generalize upI c0.toNat = y0 at *
  generalize upI c1.toNat = y1 at *
  generalize upI c2.toNat = y2 at *
  generalize upI s0.toNat = z0 at *
  generalize upI s1.toNat = z1 at *
  generalize upI s2.toNat = z2 at *
  obtain ⟨r, hr⟩ : ∃ r, (y0 == z0 && y1 == z1 && y2 == z2) = r := ⟨_, rfl⟩
  have heq : ∀ W, (Op.equalIn 10000 24 (.agg #[.int .u8 y0, .int .u8 y1, .int .u8 y2]) (.agg #[.int .u8 z0, .int .u8 z1, .int .u8 z2])).run Try.prog W = .ok r W := fun W => by rw [run_eq3, hr]
  rw [hr] at HE
  clear hr
  go_enter Try.func4, Try.ntmps4
  go_wp2_with fail
  refine H8.out.mono ?_
  rintro e w' ⟨⟨x, rfl⟩, hw⟩
  obtain rfl := hw.symm
  clear hw H8
  cases x
  · go_wp2
    go_ret
    exact ⟨rfl, Below.refl _ _⟩
  go_wp2_with fail
  refine (HA.out _).mono ?_
  rintro e w2 ⟨rfl, rfl⟩
  go_wp2_with fail
  refine (HB.out _).mono ?_
  rintro e w3 ⟨rfl, rfl⟩
  clear HA HB
  go_wp2_with fail
  refine (HE.out _).mono ?_
  rintro e w4 ⟨rfl, rfl⟩
  clear HE
  go_wp2
  go_ret
  exact ⟨ret_bool (by simp), (((((((((Below.refl _ _).alloc (by omega) _).alloc (by simp <;> omega) _).alloc (by simp <;> omega) _).alloc (by simp <;> omega) _).alloc (by simp <;> omega) _).alloc (by simp <;> omega) _).alloc (by simp <;> omega) _).alloc (by simp <;> omega) _)⟩

theorem match_walk (a b : ByteArray) (w : World) (hsa : a.size ≤ maxLen) (hsb : b.size ≤ maxLen) :
    Calls Try.prog 4 #[.string a, .string b] w fun e w' => e = .returned (.bool true) ∧ Below w.heap.size w w' := by
  by_cases ha : a.size = 3
  · obtain ⟨c0, c1, c2, rfl⟩ := three_of a ha
    by_cases hb : b.size = 3
    · obtain ⟨s0, s1, s2, rfl⟩ := three_of b hb
      exact match_yy c0 c1 c2 s0 s1 s2 w
    · exact match_yn c0 c1 c2 b w hsb (by simp; omega) (by simp; omega)
  · by_cases hb : b.size = 3
    · obtain ⟨s0, s1, s2, rfl⟩ := three_of b hb
      exact match_ny a s0 s1 s2 w hsa (by simp; omega) (by simp; omega)
    · exact match_nn a b w hsa (by simp; omega) (by simp; omega) hsb (by simp; omega) (by simp; omega)
end Go.Proofs.Qxb6618036a
