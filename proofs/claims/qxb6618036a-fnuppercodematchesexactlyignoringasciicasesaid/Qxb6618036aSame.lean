/-
  isASCIILetter, equalIgnoringASCIICase by contracts; the walk of FnUpperCodeMatchesExactlyIgnoringASCIICase.
-/
import Derived.Test.Qxb6618036aSwap
import Derived.Test.Qxb6618036aEq3
namespace Go.Proofs.Qxb6618036a
open Go.RowKit
set_option linter.unusedVariables false

/-- Is the number a letter of ASCII? -/
def letB (c : Int) : Bool := (decide (97 ≤ c) && decide (c ≤ 122)) || (decide (65 ≤ c) && decide (c ≤ 90))
theorem let_low {c : Int} (h1 : 97 ≤ c) (h2 : c ≤ 122) : letB c = true := by unfold letB; simp; omega
theorem let_up {c : Int} (h1 : 65 ≤ c) (h2 : c ≤ 90) : letB c = true := by unfold letB; simp; omega
theorem let_no {c : Int} (h1 : ¬ (97 ≤ c ∧ c ≤ 122)) (h2 : ¬ (65 ≤ c ∧ c ≤ 90)) : letB c = false := by unfold letB; simp; omega
theorem ret_bool {a b : Bool} (h : a = b) : Ending.returned (.bool a) = .returned (.bool b) := by rw [h]

set_option maxHeartbeats 1000000 in
theorem letter_any (c : Int) (w : World) : Calls Try.prog 11 #[.int .u8 c] w fun e w' => e = .returned (.bool (letB c)) ∧ w' = w := by
  by_cases h1 : 97 ≤ c
  · by_cases h2 : c ≤ 122
    · have H : Hid (letB c = true) := let_low h1 h2
      go_enter Try.func11, Try.ntmps11
      go_wp2
      go_ret
      exact ⟨ret_bool H.out.symm, rfl⟩
    · have H : Hid (letB c = false) := let_no (by omega) (by omega)
      go_enter Try.func11, Try.ntmps11
      go_wp2
      all_goals
        go_ret
        first | exact ⟨ret_bool H.out.symm, rfl⟩ | exact ⟨ret_bool (by rw [H.out]; simp; omega), rfl⟩
  · by_cases h3 : 65 ≤ c
    · by_cases h4 : c ≤ 90
      · have H : Hid (letB c = true) := let_up h3 h4
        go_enter Try.func11, Try.ntmps11
        go_wp2
        go_ret
        exact ⟨ret_bool H.out.symm, rfl⟩
      · have H : Hid (letB c = false) := let_no (by omega) (by omega)
        go_enter Try.func11, Try.ntmps11
        go_wp2
        go_ret
        exact ⟨ret_bool H.out.symm, rfl⟩
    · have H : Hid (letB c = false) := let_no (by omega) (by omega)
      go_enter Try.func11, Try.ntmps11
      go_wp2
      go_ret
      exact ⟨ret_bool H.out.symm, rfl⟩

/-- Two bytes are equal up to the case of ASCII letters. -/
def eqB (x y : UInt8) : Bool := ((x.toNat : Int) == (y.toNat : Int)) || (letB x.toNat && letB y.toNat && (bits BinOp.or IntKind.u8 x.toNat 32 == bits BinOp.or IntKind.u8 y.toNat 32))

set_option maxHeartbeats 2000000 in
theorem equal_any (c0 c1 c2 s0 s1 s2 : UInt8) (w : World) :
    Calls Try.prog 9 #[.string ⟨#[c0, c1, c2]⟩, .string ⟨#[s0, s1, s2]⟩] w fun e w' => e = .returned (.bool (eqB c0 s0 && eqB c1 s1 && eqB c2 s2)) ∧ w' = w := by
  have e0 := at0 c0 c1 c2
  have e1 := at1 c0 c1 c2
  have e2 := at2 c0 c1 c2
  have f0 := at0 s0 s1 s2
  have f1 := at1 s0 s1 s2
  have f2 := at2 s0 s1 s2
  have R0 : Hid (eqB c0 s0 = (((c0.toNat : Int) == (s0.toNat : Int)) || (letB c0.toNat && letB s0.toNat && (bits BinOp.or IntKind.u8 c0.toNat 32 == bits BinOp.or IntKind.u8 s0.toNat 32)))) := rfl
  have R1 : Hid (eqB c1 s1 = (((c1.toNat : Int) == (s1.toNat : Int)) || (letB c1.toNat && letB s1.toNat && (bits BinOp.or IntKind.u8 c1.toNat 32 == bits BinOp.or IntKind.u8 s1.toNat 32)))) := rfl
  have R2 : Hid (eqB c2 s2 = (((c2.toNat : Int) == (s2.toNat : Int)) || (letB c2.toNat && letB s2.toNat && (bits BinOp.or IntKind.u8 c2.toNat 32 == bits BinOp.or IntKind.u8 s2.toNat 32)))) := rfl
  go_enter Try.func9, Try.ntmps9
  go_wp2
  go_loop [5] (fun i => ∃ k : Nat, k ≤ 3 ∧ i = .int .i64 k ∧ Hid ((0 < k → eqB c0 s0 = true) ∧ (1 < k → eqB c1 s1 = true) ∧ (2 < k → eqB c2 s2 = true))) (fun i => 3 - (intOf i).toNat)
  case atStart => exact ⟨0, by omega, rfl, ⟨fun h => by omega, fun h => by omega, fun h => by omega⟩⟩
  case round =>
    obtain ⟨k, hk, rfl, hst⟩ := hrel
    rcases (by omega : k = 0 ∨ k = 1 ∨ k = 2 ∨ k = 3) with rfl | rfl | rfl | rfl
    · cases hxy : ((c0.toNat : Int) == (s0.toNat : Int)) with
      | true =>
        have hq : eqB c0 s0 = true := by rw [R0.out, hxy]; simp
        clear R0 R1 R2
        have HQ : Hid (eqB c0 s0 = true) := hq
        clear hq
        go_wp2_with (go_at_call 11; refine (letter_any _ _).mono ?_; rintro e w' ⟨rfl, rfl⟩)
        go_round
        case rel =>
          have hq := HQ.out
          exact ⟨1, by omega, rfl, ⟨fun _ => hq, fun h => by omega, fun h => by omega⟩⟩
        case measure => simp [intOf]
      | false =>
        cases hl1 : letB c0.toNat with
        | false =>
          have hq : eqB c0 s0 = false := by rw [R0.out, hxy, hl1]; simp
          have HQ : Hid ((eqB c0 s0 && eqB c1 s1 && eqB c2 s2) = false) := by
            show _ = _
            rw [hq]; simp
          clear R0 R1 R2 hq
          go_wp2_with (go_at_call 11; refine (letter_any _ _).mono ?_; rintro e w' ⟨rfl, rfl⟩)
          go_ret
          exact ⟨ret_bool HQ.out.symm, rfl⟩
        | true =>
          cases hl2 : letB s0.toNat with
          | false =>
            have hq : eqB c0 s0 = false := by rw [R0.out, hxy, hl1, hl2]; simp
            have HQ : Hid ((eqB c0 s0 && eqB c1 s1 && eqB c2 s2) = false) := by
              show _ = _
              rw [hq]; simp
            clear R0 R1 R2 hq
            go_wp2_with (go_at_call 11; refine (letter_any _ _).mono ?_; rintro e w' ⟨rfl, rfl⟩)
            go_ret
            exact ⟨ret_bool HQ.out.symm, rfl⟩
          | true =>
            cases hor : (bits BinOp.or IntKind.u8 c0.toNat 32 == bits BinOp.or IntKind.u8 s0.toNat 32) with
            | false =>
              have hq : eqB c0 s0 = false := by rw [R0.out, hxy, hl1, hl2, hor]; simp
              have HQ : Hid ((eqB c0 s0 && eqB c1 s1 && eqB c2 s2) = false) := by
                show _ = _
                rw [hq]; simp
              clear R0 R1 R2 hq
              go_wp2_with (go_at_call 11; refine (letter_any _ _).mono ?_; rintro e w' ⟨rfl, rfl⟩)
              go_ret
              exact ⟨ret_bool HQ.out.symm, rfl⟩
            | true =>
              have hq : eqB c0 s0 = true := by rw [R0.out, hxy, hl1, hl2, hor]; simp
              clear R0 R1 R2
              have HQ : Hid (eqB c0 s0 = true) := hq
              clear hq
              go_wp2_with (go_at_call 11; refine (letter_any _ _).mono ?_; rintro e w' ⟨rfl, rfl⟩)
              go_round
              case rel =>
                have hq := HQ.out
                exact ⟨1, by omega, rfl, ⟨fun _ => hq, fun h => by omega, fun h => by omega⟩⟩
              case measure => simp [intOf]
    · cases hxy : ((c1.toNat : Int) == (s1.toNat : Int)) with
      | true =>
        have hq : eqB c1 s1 = true := by rw [R1.out, hxy]; simp
        clear R0 R1 R2
        have HQ : Hid (eqB c1 s1 = true) := hq
        clear hq
        go_wp2_with (go_at_call 11; refine (letter_any _ _).mono ?_; rintro e w' ⟨rfl, rfl⟩)
        go_round
        case rel =>
          have hq := HQ.out
          exact ⟨2, by omega, rfl, ⟨fun _ => hst.out.1 (by omega), fun _ => hq, fun h => by omega⟩⟩
        case measure => simp [intOf]
      | false =>
        cases hl1 : letB c1.toNat with
        | false =>
          have hq : eqB c1 s1 = false := by rw [R1.out, hxy, hl1]; simp
          have HQ : Hid ((eqB c0 s0 && eqB c1 s1 && eqB c2 s2) = false) := by
            show _ = _
            rw [hq]; simp
          clear R0 R1 R2 hq
          go_wp2_with (go_at_call 11; refine (letter_any _ _).mono ?_; rintro e w' ⟨rfl, rfl⟩)
          go_ret
          exact ⟨ret_bool HQ.out.symm, rfl⟩
        | true =>
          cases hl2 : letB s1.toNat with
          | false =>
            have hq : eqB c1 s1 = false := by rw [R1.out, hxy, hl1, hl2]; simp
            have HQ : Hid ((eqB c0 s0 && eqB c1 s1 && eqB c2 s2) = false) := by
              show _ = _
              rw [hq]; simp
            clear R0 R1 R2 hq
            go_wp2_with (go_at_call 11; refine (letter_any _ _).mono ?_; rintro e w' ⟨rfl, rfl⟩)
            go_ret
            exact ⟨ret_bool HQ.out.symm, rfl⟩
          | true =>
            cases hor : (bits BinOp.or IntKind.u8 c1.toNat 32 == bits BinOp.or IntKind.u8 s1.toNat 32) with
            | false =>
              have hq : eqB c1 s1 = false := by rw [R1.out, hxy, hl1, hl2, hor]; simp
              have HQ : Hid ((eqB c0 s0 && eqB c1 s1 && eqB c2 s2) = false) := by
                show _ = _
                rw [hq]; simp
              clear R0 R1 R2 hq
              go_wp2_with (go_at_call 11; refine (letter_any _ _).mono ?_; rintro e w' ⟨rfl, rfl⟩)
              go_ret
              exact ⟨ret_bool HQ.out.symm, rfl⟩
            | true =>
              have hq : eqB c1 s1 = true := by rw [R1.out, hxy, hl1, hl2, hor]; simp
              clear R0 R1 R2
              have HQ : Hid (eqB c1 s1 = true) := hq
              clear hq
              go_wp2_with (go_at_call 11; refine (letter_any _ _).mono ?_; rintro e w' ⟨rfl, rfl⟩)
              go_round
              case rel =>
                have hq := HQ.out
                exact ⟨2, by omega, rfl, ⟨fun _ => hst.out.1 (by omega), fun _ => hq, fun h => by omega⟩⟩
              case measure => simp [intOf]
    · cases hxy : ((c2.toNat : Int) == (s2.toNat : Int)) with
      | true =>
        have hq : eqB c2 s2 = true := by rw [R2.out, hxy]; simp
        clear R0 R1 R2
        have HQ : Hid (eqB c2 s2 = true) := hq
        clear hq
        go_wp2_with (go_at_call 11; refine (letter_any _ _).mono ?_; rintro e w' ⟨rfl, rfl⟩)
        go_round
        case rel =>
          have hq := HQ.out
          exact ⟨3, by omega, rfl, ⟨fun _ => hst.out.1 (by omega), fun _ => hst.out.2.1 (by omega), fun _ => hq⟩⟩
        case measure => simp [intOf]
      | false =>
        cases hl1 : letB c2.toNat with
        | false =>
          have hq : eqB c2 s2 = false := by rw [R2.out, hxy, hl1]; simp
          have HQ : Hid ((eqB c0 s0 && eqB c1 s1 && eqB c2 s2) = false) := by
            show _ = _
            rw [hq]; simp
          clear R0 R1 R2 hq
          go_wp2_with (go_at_call 11; refine (letter_any _ _).mono ?_; rintro e w' ⟨rfl, rfl⟩)
          go_ret
          exact ⟨ret_bool HQ.out.symm, rfl⟩
        | true =>
          cases hl2 : letB s2.toNat with
          | false =>
            have hq : eqB c2 s2 = false := by rw [R2.out, hxy, hl1, hl2]; simp
            have HQ : Hid ((eqB c0 s0 && eqB c1 s1 && eqB c2 s2) = false) := by
              show _ = _
              rw [hq]; simp
            clear R0 R1 R2 hq
            go_wp2_with (go_at_call 11; refine (letter_any _ _).mono ?_; rintro e w' ⟨rfl, rfl⟩)
            go_ret
            exact ⟨ret_bool HQ.out.symm, rfl⟩
          | true =>
            cases hor : (bits BinOp.or IntKind.u8 c2.toNat 32 == bits BinOp.or IntKind.u8 s2.toNat 32) with
            | false =>
              have hq : eqB c2 s2 = false := by rw [R2.out, hxy, hl1, hl2, hor]; simp
              have HQ : Hid ((eqB c0 s0 && eqB c1 s1 && eqB c2 s2) = false) := by
                show _ = _
                rw [hq]; simp
              clear R0 R1 R2 hq
              go_wp2_with (go_at_call 11; refine (letter_any _ _).mono ?_; rintro e w' ⟨rfl, rfl⟩)
              go_ret
              exact ⟨ret_bool HQ.out.symm, rfl⟩
            | true =>
              have hq : eqB c2 s2 = true := by rw [R2.out, hxy, hl1, hl2, hor]; simp
              clear R0 R1 R2
              have HQ : Hid (eqB c2 s2 = true) := hq
              clear hq
              go_wp2_with (go_at_call 11; refine (letter_any _ _).mono ?_; rintro e w' ⟨rfl, rfl⟩)
              go_round
              case rel =>
                have hq := HQ.out
                exact ⟨3, by omega, rfl, ⟨fun _ => hst.out.1 (by omega), fun _ => hst.out.2.1 (by omega), fun _ => hq⟩⟩
              case measure => simp [intOf]
    · have HQ : Hid ((eqB c0 s0 && eqB c1 s1 && eqB c2 s2) = true) := by
        show _ = _
        rw [hst.out.1 (by omega), hst.out.2.1 (by omega), hst.out.2.2 (by omega)]; rfl
      clear R0 R1 R2
      go_wp2
      go_ret
      exact ⟨ret_bool HQ.out.symm, rfl⟩

theorem or_up : ∀ n : Fin 256, (letB (n.val : Int) = true) → bits BinOp.or IntKind.u8 (n.val : Int) 32 = upI (n.val : Int) + 32 := by decide +kernel

theorem or_letter (x : UInt8) (h : letB x.toNat = true) : bits BinOp.or IntKind.u8 x.toNat 32 = upI x.toNat + 32 :=
  or_up ⟨x.toNat, x.toNat_lt⟩ h

theorem up_letter (c : Int) (h : letB c = false) : upI c = c := by
  unfold letB at h
  unfold upI
  rw [if_neg]
  simp at h
  omega

theorem up_let (c : Int) (h : letB c = true) : 65 ≤ upI c ∧ upI c ≤ 90 := by
  unfold letB at h
  unfold upI
  simp at h
  split <;> omega

theorem eqB_up (x y : UInt8) : eqB x y = (upI x.toNat == upI y.toNat) := by
  unfold eqB
  cases hx : letB x.toNat with
  | true =>
    cases hy : letB y.toNat with
    | true =>
      rw [or_letter x hx, or_letter y hy, Bool.eq_iff_iff]
      simp only [Bool.or_eq_true, beq_iff_eq, Bool.and_eq_true, true_and]
      constructor
      · rintro (h | h)
        · rw [h]
        · omega
      · intro h; right; omega
    | false =>
      have h1 := up_letter _ hy
      have h2 := up_let _ hx
      rw [h1, Bool.eq_iff_iff]
      simp only [Bool.or_eq_true, beq_iff_eq, Bool.and_eq_true, Bool.false_eq_true, and_false, false_and, or_false]
      constructor
      · intro h; rw [h] at hx; rw [hx] at hy; cases hy
      · intro h
        have : letB y.toNat = true := let_up (by omega) (by omega)
        rw [this] at hy; cases hy
  | false =>
    have h1 := up_letter _ hx
    cases hy : letB y.toNat with
    | true =>
      have h2 := up_let _ hy
      rw [h1, Bool.eq_iff_iff]
      simp only [Bool.or_eq_true, beq_iff_eq, Bool.and_eq_true, Bool.false_eq_true, false_and, or_false]
      constructor
      · intro h; rw [h] at hx; rw [hx] at hy; cases hy
      · intro h
        have : letB x.toNat = true := let_up (by omega) (by omega)
        rw [this] at hx; cases hx
    | false =>
      rw [h1, up_letter _ hy]
      simp
end Go.Proofs.Qxb6618036a
