/-
  The size guards by contracts: each answers some bool and turns nothing; where it says yes the lists are short.
-/
import Derived.Test.Qxb6617400aJoin
namespace Go.Proofs.Qxb6617400a
open Go.RowKit
set_option linter.unusedVariables false

set_option maxHeartbeats 1000000 in
theorem bytes15_any (ao : Option Addr) (n c : Nat) (lim : Int) (ss : List ByteArray) (w : World) (hn : n ≤ 1048576) (h : Strs w ao n ss) :
    Calls Try.prog 15 #[.slice ao n c, .int .i64 lim] w fun e w' => (∃ x, e = .returned (.int .i64 x)) ∧ w' = w := by
  obtain ⟨b, o, ha, hc⟩ := h.parts
  clear h
  go_enter Try.func15, Try.ntmps15
  go_wp2
  go_loop [5, 6] (fun sn si => ∃ (k : Nat) (x : Int), k ≤ n ∧ si = .int .i64 k ∧ sn = .int .i64 x) (fun _ si => n - (intOf si).toNat)
  case atStart => exact ⟨0, 0, Nat.zero_le _, rfl, rfl⟩
  case round =>
    obtain ⟨k, x, hk, rfl, rfl⟩ := hrel
    by_cases hlt : k < n
    · obtain rfl : ao = some ⟨b, o, none⟩ := ha (by omega)
      have hcx := hc k hlt
      clear hc
      go_wp2
      · go_ret
        exact ⟨⟨_, rfl⟩, rfl⟩
      · go_round
        case rel => exact ⟨k + 1, _, by omega, by go_num, rfl⟩
        case measure => simp [intOf]; omega
    · go_wp2
      go_ret
      exact ⟨⟨_, rfl⟩, rfl⟩

/-- It returned some bool. -/
def SomeBool (e : Ending) : Prop := ∃ x, e = .returned (.bool x)
theorem SomeBool.mk (x : Bool) : SomeBool (.returned (.bool x)) := ⟨x, rfl⟩

set_option maxHeartbeats 1000000 in
theorem sizeOK_any (s1 s2 s3 : ByteArray) (ao1 ao2 : Option Addr) (n1 c1 n2 c2 : Nat) (A B : List ByteArray) (w : World) (hn1 : n1 ≤ 1048576) (hn2 : n2 ≤ 1048576) (h1 : Strs w ao1 n1 A) (h2 : Strs w ao2 n2 B) :
    Calls Try.prog 7 #[.string s1, .slice ao1 n1 c1, .string s2, .slice ao2 n2 c2, .string s3] w fun e w' => SomeBool e ∧ w' = w := by
  have H1 : Hid (∀ lim, Calls Try.prog 15 #[.slice ao1 n1 c1, .int .i64 lim] w fun e w' => (∃ x, e = .returned (.int .i64 x)) ∧ w' = w) := fun lim => bytes15_any ao1 n1 c1 lim A w hn1 h1
  have H2 : Hid (∀ lim, Calls Try.prog 15 #[.slice ao2 n2 c2, .int .i64 lim] w fun e w' => (∃ x, e = .returned (.int .i64 x)) ∧ w' = w) := fun lim => bytes15_any ao2 n2 c2 lim B w hn2 h2
  clear h1 h2
  go_enter Try.func7, Try.ntmps7
  go_wp2_with fail
  all_goals try (go_ret; exact ⟨SomeBool.mk _, rfl⟩)
  refine (H1.out _).mono ?_
  rintro e w' ⟨⟨x, rfl⟩, rfl⟩
  go_wp2_with fail
  all_goals try (go_ret; exact ⟨SomeBool.mk _, rfl⟩)
  refine (H2.out _).mono ?_
  rintro e w' ⟨⟨y, rfl⟩, rfl⟩
  go_wp2
  go_ret
  exact ⟨SomeBool.mk _, rfl⟩

/-- It returned a bool; where that is true, p holds. -/
def BoolIf (p : Prop) (e : Ending) : Prop := ∃ x, e = .returned (.bool x) ∧ (x = true → p)
theorem BoolIf.no (p : Prop) : BoolIf p (.returned (.bool false)) := ⟨false, rfl, fun h => by cases h⟩
theorem BoolIf.yes {p : Prop} (h : p) : BoolIf p (.returned (.bool true)) := ⟨true, rfl, fun _ => h⟩

set_option maxHeartbeats 2000000 in
theorem bytes6_any (s1 s2 s3 : ByteArray) (ao1 ao2 : Option Addr) (n1 c1 n2 c2 : Nat) (A B : List ByteArray) (w : World) (h1 : Strs w ao1 n1 A) (h2 : Strs w ao2 n2 B)
    (hm1 : n1 ≤ maxLen) (hm2 : n2 ≤ maxLen) (hs1 : s1.size ≤ maxLen) (hs2 : s2.size ≤ maxLen) (hs3 : s3.size ≤ maxLen) :
    Calls Try.prog 6 #[.string s1, .slice ao1 n1 c1, .string s2, .slice ao2 n2 c2, .string s3] w fun e w' => BoolIf (n1 ≤ 1048576 ∧ n2 ≤ 1048576) e ∧ w' = w := by
  unfold maxLen at hm1 hm2 hs1 hs2 hs3
  obtain ⟨b1, o1, ha1, hc1⟩ := h1.parts
  obtain ⟨b2, o2, ha2, hc2⟩ := h2.parts
  clear h1 h2
  go_enter Try.func6, Try.ntmps6
  go_wp2
  all_goals try (go_ret; exact ⟨BoolIf.no _, rfl⟩)
  go_loop [11, 12] (fun sn si => ∃ k x : Nat, k ≤ n1 ∧ x ≤ 1048576 ∧ si = .int .i64 k ∧ sn = .int .i64 x) (fun _ si => n1 - (intOf si).toNat)
  case atStart => exact ⟨0, s1.size + n1, Nat.zero_le _, by omega, rfl, by go_num⟩
  case round =>
    obtain ⟨k, x, hk, hx, rfl, rfl⟩ := hrel
    by_cases hlt : k < n1
    · obtain rfl : ao1 = some ⟨b1, o1, none⟩ := ha1 (by omega)
      obtain ⟨s, hs⟩ : ∃ s, s = A.getD k ByteArray.empty := ⟨_, rfl⟩
      have hcx := hc1 k hlt
      rw [← hs] at hcx
      clear hs hc1 hc2
      go_wp2
      all_goals try (go_ret; exact ⟨BoolIf.no _, rfl⟩)
      go_round
      case rel => exact ⟨k + 1, x + s.size, by omega, by omega, by go_num, by go_num⟩
      case measure => simp [intOf]; omega
    · go_wp2
      all_goals try (go_ret; exact ⟨BoolIf.no _, rfl⟩)
      go_loop [11, 13] (fun sn si => ∃ k y : Nat, k ≤ n2 ∧ y ≤ 1048576 ∧ si = .int .i64 k ∧ sn = .int .i64 y) (fun _ si => n2 - (intOf si).toNat)
      case atStart => exact ⟨0, x + s2.size + n2, Nat.zero_le _, by omega, rfl, by go_num⟩
      case round =>
        obtain ⟨j, y, hj, hy, rfl, rfl⟩ := hrel
        by_cases hlt2 : j < n2
        · obtain rfl : ao2 = some ⟨b2, o2, none⟩ := ha2 (by omega)
          obtain ⟨s, hs⟩ : ∃ s, s = B.getD j ByteArray.empty := ⟨_, rfl⟩
          have hcx := hc2 j hlt2
          rw [← hs] at hcx
          clear hs hc1 hc2
          go_wp2
          all_goals try (go_ret; exact ⟨BoolIf.no _, rfl⟩)
          go_round
          case rel => exact ⟨j + 1, y + s.size, by omega, by omega, by go_num, by go_num⟩
          case measure => simp [intOf]; omega
        · go_wp2
          all_goals try (go_ret; exact ⟨BoolIf.no _, rfl⟩)
          go_ret
          exact ⟨BoolIf.yes ⟨by omega, by omega⟩, rfl⟩

set_option maxHeartbeats 2000000 in
theorem bytes12_any (s1 s2 s3 : ByteArray) (ao1 ao2 : Option Addr) (n1 c1 n2 c2 : Nat) (A B : List ByteArray) (w : World) (h1 : Strs w ao1 n1 A) (h2 : Strs w ao2 n2 B)
    (hm1 : n1 ≤ maxLen) (hm2 : n2 ≤ maxLen) (hs1 : s1.size ≤ maxLen) (hs2 : s2.size ≤ maxLen) (hs3 : s3.size ≤ maxLen) :
    Calls Try.prog 12 #[.string s1, .slice ao1 n1 c1, .string s2, .slice ao2 n2 c2, .string s3] w fun e w' => BoolIf (n1 ≤ 1048576 ∧ n2 ≤ 1048576) e ∧ w' = w := by
  unfold maxLen at hm1 hm2 hs1 hs2 hs3
  obtain ⟨b1, o1, ha1, hc1⟩ := h1.parts
  obtain ⟨b2, o2, ha2, hc2⟩ := h2.parts
  clear h1 h2
  go_enter Try.func12, Try.ntmps12
  go_wp2
  all_goals try (go_ret; exact ⟨BoolIf.no _, rfl⟩)
  go_loop [11, 12] (fun sn si => ∃ k x : Nat, k ≤ n1 ∧ x ≤ 1048576 ∧ si = .int .i64 k ∧ sn = .int .i64 x) (fun _ si => n1 - (intOf si).toNat)
  case atStart => exact ⟨0, s1.size + n1, Nat.zero_le _, by omega, rfl, by go_num⟩
  case round =>
    obtain ⟨k, x, hk, hx, rfl, rfl⟩ := hrel
    by_cases hlt : k < n1
    · obtain rfl : ao1 = some ⟨b1, o1, none⟩ := ha1 (by omega)
      obtain ⟨s, hs⟩ : ∃ s, s = A.getD k ByteArray.empty := ⟨_, rfl⟩
      have hcx := hc1 k hlt
      rw [← hs] at hcx
      clear hs hc1 hc2
      go_wp2
      all_goals try (go_ret; exact ⟨BoolIf.no _, rfl⟩)
      go_round
      case rel => exact ⟨k + 1, x + s.size, by omega, by omega, by go_num, by go_num⟩
      case measure => simp [intOf]; omega
    · go_wp2
      all_goals try (go_ret; exact ⟨BoolIf.no _, rfl⟩)
      go_loop [11, 13] (fun sn si => ∃ k y : Nat, k ≤ n2 ∧ y ≤ 1048576 ∧ si = .int .i64 k ∧ sn = .int .i64 y) (fun _ si => n2 - (intOf si).toNat)
      case atStart => exact ⟨0, x + s2.size + n2, Nat.zero_le _, by omega, rfl, by go_num⟩
      case round =>
        obtain ⟨j, y, hj, hy, rfl, rfl⟩ := hrel
        by_cases hlt2 : j < n2
        · obtain rfl : ao2 = some ⟨b2, o2, none⟩ := ha2 (by omega)
          obtain ⟨s, hs⟩ : ∃ s, s = B.getD j ByteArray.empty := ⟨_, rfl⟩
          have hcx := hc2 j hlt2
          rw [← hs] at hcx
          clear hs hc1 hc2
          go_wp2
          all_goals try (go_ret; exact ⟨BoolIf.no _, rfl⟩)
          go_round
          case rel => exact ⟨j + 1, y + s.size, by omega, by omega, by go_num, by go_num⟩
          case measure => simp [intOf]; omega
        · go_wp2
          all_goals try (go_ret; exact ⟨BoolIf.no _, rfl⟩)
          go_ret
          exact ⟨BoolIf.yes ⟨by omega, by omega⟩, rfl⟩

end Go.Proofs.Qxb6617400a
