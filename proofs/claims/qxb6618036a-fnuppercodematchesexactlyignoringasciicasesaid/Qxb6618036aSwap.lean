/-
  swapASCIICase and the size guards by contracts.
-/
import Derived.Test.Qxb6618036aUp
namespace Go.Proofs.Qxb6618036a
open Go.RowKit
set_option linter.unusedVariables false

/-- A byte with its case swapped, as a number. -/
def swI (c : Int) : Int := if 97 ≤ c ∧ c ≤ 122 then c - 97 + 65 else if 65 ≤ c ∧ c ≤ 90 then c - 65 + 97 else c
/-- The bytes of s as numbers. -/
def nums (s : ByteArray) : List Int := s.data.toList.map fun c => (c.toNat : Int)
def swapB (s : ByteArray) : ByteArray := strOfNums ((nums s).map swI)
/-- What the new row holds behind k rounds. -/
def rowAt (s : ByteArray) (k : Nat) : List Int := ((nums s).take k).map swI ++ List.replicate (s.size - k) 0

theorem nums_length (s : ByteArray) : (nums s).length = s.size := by rw [nums, List.length_map]; exact (Lib.size_eq s).symm
theorem nums_at (s : ByteArray) (k : Nat) (h : k < s.size) (h2 : k < (nums s).length) : (nums s)[k] = (s[k].toNat : Int) := by
  simp [nums]
  rfl
theorem rowAt_length (s : ByteArray) (k : Nat) (h : k ≤ s.size) : (rowAt s k).length = s.size := by
  simp [rowAt, nums_length]; omega
theorem rowAt_set (s : ByteArray) (k : Nat) (h : k < s.size) : (rowAt s k).set k (swI s[k].toNat) = rowAt s (k + 1) := by
  have hl : (nums s).length = s.size := nums_length s
  unfold rowAt
  have e : s.size - k = (s.size - (k + 1)) + 1 := by omega
  rw [e, List.replicate_succ, List.set_append_right _ _ (by simp; omega)]
  rw [List.take_succ_eq_append_getElem (by omega), nums_at s k h]
  simp [show k - min k (nums s).length = 0 by omega]

theorem Try.info5 : (Try.prog.info? 5).map (fun i => (i.zero, i.size, i.bytes)) = some (some (.int .u8 0), 1, 1) := by kernel_rfl

set_option maxHeartbeats 1000000 in
theorem swap_any (s : ByteArray) (w : World) (hs : (s.size : Int) ≤ 65536) :
    Calls Try.prog 6 #[.string s] w fun e w' => e = .returned (.string (swapB s)) ∧ Below w.heap.size w w' := by
  obtain ⟨i0, hi, hz0, hz1, hz2⟩ := info_parts Try.info5
  go_enter Try.func6, Try.ntmps6
  go_wp2_with (at_make; refine wpList_make_full _ rfl _ _ 28 rfl w.heap.size 5 i0 (.int .u8 0) 1 Try.underlying28 hi hz0 hz1 _ _ _ _ s.size rfl rfl rfl rfl ?b2 ?b3 (Nat.le_refl _) ?_)
  case b2 => rw [hz2]; omega
  case b3 => unfold maxLen; omega
  intro w0 hown0 hgrow0
  have hown1 : w0.ownsRow w.heap.size 5 1 (.slice (some ⟨w.heap.size, 0, none⟩) s.size s.size) s.size ((rowAt s 0).map (Value.int .u8)) := by
    have e : ((rowAt s 0).map (Value.int .u8)) = (madeCells #[.int .u8 0] s.size).toList := by
      rw [toList_madeCells_one]
      simp [rowAt]
    rw [e]; exact hown0
  have hb0 : Below w.heap.size w w0 := (Below.refl _ _).grown hgrow0 (Nat.le_refl _) (fun k h => by cases h)
  clear hown0 hgrow0 hi hz0 hz1 hz2
  go_wp2
  go_loopw [4] (fun si wr => ∃ k : Nat, k ≤ s.size ∧ si = .int .i64 k ∧ wr.ownsRow w.heap.size 5 1 (.slice (some ⟨w.heap.size, 0, none⟩) s.size s.size) s.size ((rowAt s k).map (Value.int .u8)) ∧ Below w.heap.size w wr) (fun si _ => s.size - (intOf si).toNat)
  case atStart => exact ⟨0, Nat.zero_le _, rfl, hown1, hb0⟩
  case round =>
    clear hown1 hb0
    obtain ⟨k, hk, rfl, hown, hnx⟩ := hrel
    by_cases hlt : k < s.size
    · have hcell := hown.cellAt k (by omega)
      have hfr := hown.frozenAt k
      have hsome : ∃ v, wr.cell? ⟨w.heap.size, k, none⟩ = some v := ⟨_, by rw [hcell, List.getElem?_eq_getElem (by rw [List.length_map, rowAt_length s k hk]; exact hlt)]⟩
      obtain ⟨v, hv⟩ := hsome
      have HS : Hid (∀ x, swI s[k].toNat = x → ((wr.setCell ⟨w.heap.size, k, none⟩ (.int .u8 x)).ownsRow w.heap.size 5 1 (.slice (some ⟨w.heap.size, 0, none⟩) s.size s.size) s.size ((rowAt s (k + 1)).map (Value.int .u8)) ∧ Below w.heap.size w (wr.setCell ⟨w.heap.size, k, none⟩ (.int .u8 x)))) := by
        intro x hx
        refine ⟨?_, hnx.setCell (Nat.le_refl _) _⟩
        have := (hown.stored k (.int .u8 x)).1
        rw [← hx] at this ⊢
        rw [← List.map_set, rowAt_set s k hlt] at this
        exact this
      clear hcell hown hnx
      go_wp2
      all_goals
        go_roundw
        case rel =>
          refine ⟨k + 1, by omega, by go_num, (HS.out _ ?_).1, (HS.out _ ?_).2⟩
          all_goals (unfold swI; split <;> (try split) <;> omega)
        case measure => simp [intOf]; omega
    · obtain rfl : k = s.size := by omega
      have hrow : rowAt s s.size = (nums s).map swI := by
        unfold rowAt
        rw [Nat.sub_self, List.replicate_zero, List.append_nil, List.take_of_length_le (by rw [nums_length]; exact Nat.le_refl _)]
      rw [hrow] at hown
      have hconv : (convert 28 9 (.slice (some ⟨w.heap.size, 0, none⟩) s.size s.size)).run Try.prog wr = .ok (.string (swapB s)) wr :=
        run_convert_bytes_arg wr 28 5 Try.underlying28 Try.underlying5 w.heap.size 0 s.size s.size ((nums s).map swI) (by rw [List.length_map, nums_length]) (fun i hi => by
          rw [Nat.zero_add, hown.cellAt i (by omega), List.getElem?_map]
          have hi' : i < ((nums s).map swI).length := by rw [List.length_map, nums_length]; exact hi
          rw [List.getD, List.getElem?_eq_getElem hi']
          rfl) 9 Try.underlying9
      clear hown hrow
      go_wp2
      go_ret
      exact ⟨rfl, hnx⟩

/-- It returned some bool. -/
def SomeBool (e : Ending) : Prop := ∃ x, e = .returned (.bool x)
theorem SomeBool.mk (x : Bool) : SomeBool (.returned (.bool x)) := ⟨x, rfl⟩

set_option maxHeartbeats 1000000 in
theorem bytes5_any (s : ByteArray) (w : World) (hs : s.size ≤ maxLen) : Calls Try.prog 5 #[.string s] w fun e w' => SomeBool e ∧ w' = w := by
  unfold maxLen at hs
  go_enter Try.func5, Try.ntmps5
  go_wp2
  all_goals
    go_ret
    exact ⟨SomeBool.mk _, rfl⟩

set_option maxHeartbeats 1000000 in
theorem bytes8_any (s t : ByteArray) (w : World) (hs : s.size ≤ maxLen) (ht : t.size ≤ maxLen) : Calls Try.prog 8 #[.string s, .string t] w fun e w' => SomeBool e ∧ w' = w := by
  unfold maxLen at hs ht
  go_enter Try.func8, Try.ntmps8
  go_wp2
  all_goals
    go_ret
    exact ⟨SomeBool.mk _, rfl⟩
end Go.Proofs.Qxb6618036a
