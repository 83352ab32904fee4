/-
  The walk of FnUpperCodeIsCanonicalCase.
-/
import Derived.Test.Qxb6618036aSwap
import Derived.Test.Qxb6618036aEq3
namespace Go.Proofs.Qxb6618036a
open Go.RowKit
set_option linter.unusedVariables false

theorem swapB_size (s : ByteArray) : (swapB s).size = s.size := by
  rw [swapB, strOfNums_size, List.length_map, nums_length]

theorem swI_bounds (c : Int) (h0 : 0 ≤ c) (h1 : c < 256) : 0 ≤ swI c ∧ swI c < 256 := by
  unfold swI; split
  · omega
  · split <;> omega

theorem up_sw (c : Int) : upI (swI c) = upI c := by
  unfold upI swI
  repeat' split
  all_goals omega

theorem up_low (c : Int) : ¬ (97 ≤ upI c ∧ upI c ≤ 122) := by
  unfold upI
  split <;> omega

theorem up_one (c : Int) : upI c = c ∨ upI c = swI c := by
  unfold upI swI
  repeat' split
  all_goals omega

theorem three_of (s : ByteArray) (h : s.size = 3) : ∃ c0 c1 c2, s = ⟨#[c0, c1, c2]⟩ := by
  obtain ⟨⟨l⟩⟩ := s
  have hl : l.length = 3 := h
  match l, hl with
  | [a, b, c], _ => exact ⟨a, b, c, rfl⟩

theorem byte_of (n : Int) (h0 : 0 ≤ n) (h1 : n < 256) : ((UInt8.ofNat n.toNat).toNat : Int) = n := by
  rw [UInt8.toNat_ofNat_of_lt' (by show n.toNat < 256; omega)]
  omega

theorem swap_three (c0 c1 c2 : UInt8) : ∃ s0 s1 s2 : UInt8, swapB ⟨#[c0, c1, c2]⟩ = ⟨#[s0, s1, s2]⟩ ∧ (s0.toNat : Int) = swI c0.toNat ∧ (s1.toNat : Int) = swI c1.toNat ∧ (s2.toNat : Int) = swI c2.toNat := by
  have q : ∀ c : UInt8, 0 ≤ swI c.toNat ∧ swI c.toNat < 256 := fun c => swI_bounds _ (by omega) (by have := c.toNat_lt; omega)
  exact ⟨UInt8.ofNat (swI c0.toNat).toNat, UInt8.ofNat (swI c1.toNat).toNat, UInt8.ofNat (swI c2.toNat).toNat, rfl, byte_of _ (q c0).1 (q c0).2, byte_of _ (q c1).1 (q c1).2, byte_of _ (q c2).1 (q c2).2⟩

set_option maxHeartbeats 1000000 in
theorem canon_no (s : ByteArray) (w : World) (hs : s.size ≤ maxLen) (h3 : ((s.size : Int) != 3) = true) :
    Calls Try.prog 3 #[.string s] w fun e w' => e = .returned (.bool true) ∧ Below w.heap.size w w' := by
  have H7 : Hid (∀ W : World, Calls Try.prog 7 #[.string s] W fun e w' => e = .returned (.tuple #[.agg #[.int .u8 0, .int .u8 0, .int .u8 0], .bool false]) ∧ w' = ((W.alloc (.cells #[.int .u8 0, .int .u8 0, .int .u8 0] 24)).alloc (.cells #[.int .u8 0, .int .u8 0, .int .u8 0] 24)).alloc (.cells #[.int .u8 0, .int .u8 0, .int .u8 0] 24)) := fun W => zz_no s W h3
  have h3s : (((swapB s).size : Int) != 3) = true := by rw [swapB_size]; exact h3
  have H8 : Hid (∀ W : World, Calls Try.prog 7 #[.string (swapB s)] W fun e w' => e = .returned (.tuple #[.agg #[.int .u8 0, .int .u8 0, .int .u8 0], .bool false]) ∧ w' = ((W.alloc (.cells #[.int .u8 0, .int .u8 0, .int .u8 0] 24)).alloc (.cells #[.int .u8 0, .int .u8 0, .int .u8 0] 24)).alloc (.cells #[.int .u8 0, .int .u8 0, .int .u8 0] 24)) := fun W => zz_no _ W h3s
  clear h3s
  have H5 : Hid (Calls Try.prog 5 #[.string s] w fun e w' => SomeBool e ∧ w' = w) := bytes5_any s w hs
  clear hs
  go_enter Try.func3, Try.ntmps3
  go_wp2_with fail
  refine H5.out.mono ?_
  rintro e w' ⟨⟨x, rfl⟩, hw⟩
  obtain rfl := hw.symm
  clear hw H5
  cases x
  · go_wp2
    go_ret
    exact ⟨rfl, Below.refl _ _⟩
  by_cases hlim : (65536 : Int) < (s.size : Int)
  · go_wp2
    go_ret
    exact ⟨rfl, Below.refl _ _⟩
  have H6 : Hid (Calls Try.prog 6 #[.string s] w fun e w' => e = .returned (.string (swapB s)) ∧ Below w.heap.size w w') := swap_any s w (by omega)
  generalize swapB s = t at *
  go_wp2_with fail
  refine H6.out.mono ?_
  rintro e w1 ⟨rfl, hb1⟩
  go_wp2_with fail
  refine (H7.out _).mono ?_
  rintro e w2 ⟨rfl, rfl⟩
  go_wp2_with fail
  refine (H8.out _).mono ?_
  rintro e w3 ⟨rfl, rfl⟩
  have heq : ∀ W, (Op.equalIn 10000 24 (.agg #[.int .u8 0, .int .u8 0, .int .u8 0]) (.agg #[.int .u8 0, .int .u8 0, .int .u8 0])).run Try.prog W = .ok true W := fun W => run_eq3 0 0 0 0 0 0 W
  go_wp2
  go_ret
  refine ⟨rfl, ?_⟩
  have hz := hb1.size
  exact (((((((hb1.alloc (by omega) _).alloc (by simp; omega) _).alloc (by simp; omega) _).alloc (by simp; omega) _).alloc (by simp; omega) _).alloc (by simp; omega) _).alloc (by simp; omega) _).alloc (by simp; omega) _

set_option maxHeartbeats 2000000 in
theorem canon_yes (c0 c1 c2 : UInt8) (w : World) :
    Calls Try.prog 3 #[.string ⟨#[c0, c1, c2]⟩] w fun e w' => e = .returned (.bool true) ∧ Below w.heap.size w w' := by
  obtain ⟨s0, s1, s2, hsw, h0, h1, h2⟩ := swap_three c0 c1 c2
  have H7 : Hid (∀ W : World, Calls Try.prog 7 #[.string ⟨#[c0, c1, c2]⟩] W fun e w' => e = .returned (.tuple #[.agg #[.int .u8 (upI c0.toNat), .int .u8 (upI c1.toNat), .int .u8 (upI c2.toNat)], .bool true]) ∧ w' = ((W.alloc (.cells #[.int .u8 (upI c0.toNat), .int .u8 (upI c1.toNat), .int .u8 (upI c2.toNat)] 24)).alloc (.cells #[.int .u8 (upI c0.toNat), .int .u8 (upI c1.toNat), .int .u8 (upI c2.toNat)] 24)).alloc (.cells #[.int .u8 (upI c0.toNat), .int .u8 (upI c1.toNat), .int .u8 (upI c2.toNat)] 24)) := fun W => zz_yes c0 c1 c2 W
  have H8 : Hid (∀ W : World, Calls Try.prog 7 #[.string ⟨#[s0, s1, s2]⟩] W fun e w' => e = .returned (.tuple #[.agg #[.int .u8 (upI c0.toNat), .int .u8 (upI c1.toNat), .int .u8 (upI c2.toNat)], .bool true]) ∧ w' = ((W.alloc (.cells #[.int .u8 (upI c0.toNat), .int .u8 (upI c1.toNat), .int .u8 (upI c2.toNat)] 24)).alloc (.cells #[.int .u8 (upI c0.toNat), .int .u8 (upI c1.toNat), .int .u8 (upI c2.toNat)] 24)).alloc (.cells #[.int .u8 (upI c0.toNat), .int .u8 (upI c1.toNat), .int .u8 (upI c2.toNat)] 24)) := fun W => by
    have := zz_yes s0 s1 s2 W
    rw [h0, h1, h2, up_sw, up_sw, up_sw] at this
    exact this
  have H6 : Hid (Calls Try.prog 6 #[.string ⟨#[c0, c1, c2]⟩] w fun e w' => e = .returned (.string ⟨#[s0, s1, s2]⟩) ∧ Below w.heap.size w w') := by
    have := swap_any ⟨#[c0, c1, c2]⟩ w (by show (3 : Int) ≤ 65536; omega)
    rw [hsw] at this
    exact this
  have H5 : Hid (Calls Try.prog 5 #[.string ⟨#[c0, c1, c2]⟩] w fun e w' => SomeBool e ∧ w' = w) := bytes5_any _ w (by show 3 ≤ _; unfold maxLen; omega)
  have L0 := up_low c0.toNat
  have L1 := up_low c1.toNat
  have L2 := up_low c2.toNat
  have O0 := up_one c0.toNat
  have O1 := up_one c1.toNat
  have O2 := up_one c2.toNat
  rw [← h0] at O0
  rw [← h1] at O1
  rw [← h2] at O2
  clear hsw h0 h1 h2
  generalize upI c0.toNat = y0 at *
  generalize upI c1.toNat = y1 at *
  generalize upI c2.toNat = y2 at *
  have e0 := at0 c0 c1 c2
  have e1 := at1 c0 c1 c2
  have e2 := at2 c0 c1 c2
  have f0 := at0 s0 s1 s2
  have f1 := at1 s0 s1 s2
  have f2 := at2 s0 s1 s2
  have heq : ∀ W, (Op.equalIn 10000 24 (.agg #[.int .u8 y0, .int .u8 y1, .int .u8 y2]) (.agg #[.int .u8 y0, .int .u8 y1, .int .u8 y2])).run Try.prog W = .ok true W := fun W => by rw [run_eq3]; simp
  go_enter Try.func3, Try.ntmps3
  go_wp2_with fail
  refine H5.out.mono ?_
  rintro e w' ⟨⟨x, rfl⟩, hw⟩
  obtain rfl := hw.symm
  clear hw H5
  cases x
  · go_wp2
    go_ret
    exact ⟨rfl, Below.refl _ _⟩
  go_wp2_with fail
  refine H6.out.mono ?_
  rintro e w1 ⟨rfl, hb1⟩
  clear H6
  go_wp2_with fail
  refine (H7.out _).mono ?_
  rintro e w2 ⟨rfl, rfl⟩
  go_wp2_with fail
  refine (H8.out _).mono ?_
  rintro e w3 ⟨rfl, rfl⟩
  clear H7 H8
  go_wp2
  clear heq
  go_loop [8] (fun i => ∃ k : Nat, k ≤ 3 ∧ i = .int .i64 k) (fun i => 3 - (intOf i).toNat)
  case atStart => exact ⟨0, by omega, rfl⟩
  case round =>
    obtain ⟨k, hk, rfl⟩ := hrel
    rcases (by omega : k = 0 ∨ k = 1 ∨ k = 2 ∨ k = 3) with rfl | rfl | rfl | rfl
    · clear L1 L2 O1 O2
      rcases O0 with h | h
      · have hne : (y0 != (c0.toNat : Int)) = false := by simp [h]
        clear h
        go_wp2
        all_goals
          go_round
          case rel => exact ⟨1, by omega, rfl⟩
          case measure => simp [intOf]
      · have hne : (y0 != (s0.toNat : Int)) = false := by simp [h]
        clear h
        go_wp2
        all_goals
          go_round
          case rel => exact ⟨1, by omega, rfl⟩
          case measure => simp [intOf]
    · clear L2 L0 O2 O0
      rcases O1 with h | h
      · have hne : (y1 != (c1.toNat : Int)) = false := by simp [h]
        clear h
        go_wp2
        all_goals
          go_round
          case rel => exact ⟨2, by omega, rfl⟩
          case measure => simp [intOf]
      · have hne : (y1 != (s1.toNat : Int)) = false := by simp [h]
        clear h
        go_wp2
        all_goals
          go_round
          case rel => exact ⟨2, by omega, rfl⟩
          case measure => simp [intOf]
    · clear L0 L1 O0 O1
      rcases O2 with h | h
      · have hne : (y2 != (c2.toNat : Int)) = false := by simp [h]
        clear h
        go_wp2
        all_goals
          go_round
          case rel => exact ⟨3, by omega, rfl⟩
          case measure => simp [intOf]
      · have hne : (y2 != (s2.toNat : Int)) = false := by simp [h]
        clear h
        go_wp2
        all_goals
          go_round
          case rel => exact ⟨3, by omega, rfl⟩
          case measure => simp [intOf]
    · go_wp2
      go_ret
      refine ⟨rfl, ?_⟩
      have hz := hb1.size
      exact (((((((hb1.alloc (by omega) _).alloc (by simp; omega) _).alloc (by simp; omega) _).alloc (by simp; omega) _).alloc (by simp; omega) _).alloc (by simp; omega) _).alloc (by simp; omega) _).alloc (by simp; omega) _

theorem canon_walk (s : ByteArray) (w : World) (hs : s.size ≤ maxLen) :
    Calls Try.prog 3 #[.string s] w fun e w' => e = .returned (.bool true) ∧ Below w.heap.size w w' := by
  by_cases h : s.size = 3
  · obtain ⟨c0, c1, c2, rfl⟩ := three_of s h
    exact canon_yes c0 c1 c2 w
  · exact canon_no s w hs (by simp; omega)
end Go.Proofs.Qxb6618036a
