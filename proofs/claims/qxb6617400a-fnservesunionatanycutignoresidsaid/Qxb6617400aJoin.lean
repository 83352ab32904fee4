/-
  zzJoin2, zzJoin3 by contracts.
-/
import Derived.Test.Qxb6617400aServes
namespace Go.Proofs.Qxb6617400a
open Go.RowKit
set_option linter.unusedVariables false

theorem Try.info9 : (Try.prog.info? 9).map (fun i => (i.zero, i.size, i.bytes)) = some (some (.string ⟨#[]⟩), 1, 16) := by kernel_rfl

/-- The slice's strings in one form, whether it holds any or not. -/
theorem Strs.parts {w : World} {ao : Option Addr} {n : Nat} {ss : List ByteArray} (h : Strs w ao n ss) :
    ∃ b off, (0 < n → ao = some ⟨b, off, none⟩) ∧ ∀ i, i < n → w.cell? ⟨b, off + i, none⟩ = some (.string (ss.getD i ByteArray.empty)) := by
  obtain ⟨_, _, h0 | ⟨b, off, hao, hc⟩⟩ := h
  · exact ⟨0, 0, fun h => by omega, fun i hi => by omega⟩
  · exact ⟨b, off, fun _ => hao, hc⟩

theorem Strs.later {w w' : World} {ao : Option Addr} {n : Nat} {ss : List ByteArray} (h : Strs w ao n ss) (hb : Below w.heap.size w w') : Strs w' ao n ss := by
  obtain ⟨hl, hz, h0 | ⟨b, off, hao, hc⟩⟩ := h
  · exact ⟨hl, hz, .inl h0⟩
  · exact ⟨hl, hz, .inr ⟨b, off, hao, fun i hi => cell_later hb (hc i hi)⟩⟩

theorem Strs.owned {w : World} {base g n cap : Nat} {ss : List ByteArray} (hl : ss.length = n) (hz : ∀ s ∈ ss, s.size ≤ maxLen) (h : w.ownsRow base 9 1 (.slice (some ⟨g, 0, none⟩) n cap) n (ss.map Value.string)) : Strs w (some ⟨g, 0, none⟩) n ss := by
  refine ⟨hl, hz, .inr ⟨g, 0, rfl, fun i hi => ?_⟩⟩
  have := h.cellAt i (by omega)
  rw [Nat.zero_add, this, List.getElem?_map, List.getElem?_eq_getElem (by omega)]
  simp [List.getD, show i < ss.length by omega]

theorem cell_one (w : World) (v : Value) (t : TypeId) : ∀ j u, [v][j]? = some u → (w.alloc (.cells #[v] t)).cell? ((⟨w.heap.size, 0, none⟩ : Addr).add j) = some u := cell_one_new w v t

theorem one_string (s : ByteArray) : ∀ u ∈ [Value.string s], u.oneCell' = true := by intro u hu; simp at hu; subst hu; rfl

set_option maxHeartbeats 1000000 in
theorem join2_any (ao1 ao2 : Option Addr) (n1 c1 n2 c2 : Nat) (A B : List ByteArray) (w : World) (hn1 : n1 ≤ 1048576) (hn2 : n2 ≤ 1048576) (h1 : Strs w ao1 n1 A) (h2 : Strs w ao2 n2 B) :
    Calls Try.prog 10 #[.slice ao1 n1 c1, .slice ao2 n2 c2] w fun e w' =>
      e = .returned (.slice (some ⟨w.heap.size, 0, none⟩) (n1 + n2) (n1 + n2)) ∧ Strs w' (some ⟨w.heap.size, 0, none⟩) (n1 + n2) (A ++ B) ∧ Below w.heap.size w w' := by
  obtain ⟨i0, hi, hz0, hz1, hz2⟩ := info_parts Try.info9
  obtain ⟨b1, o1, ha1, hc1⟩ := h1.parts
  obtain ⟨b2, o2, ha2, hc2⟩ := h2.parts
  have hl1 := h1.1
  have hl2 := h2.1
  have Hz : Hid (∀ s ∈ A ++ B, s.size ≤ maxLen) := by
    intro s hs
    rcases List.mem_append.1 hs with h | h
    · exact h1.2.1 s h
    · exact h2.2.1 s h
  clear h1 h2
  go_enter Try.func10, Try.ntmps10
  go_wp2_with (at_make; refine wpList_make_own _ rfl _ _ 22 rfl w.heap.size 9 i0 (.string ⟨#[]⟩) 1 Try.underlying22 hi hz0 hz1 _ _ _ (n1 + n2) rfl rfl (by omega) ?b2 ?b3 (Nat.le_refl _) ?_)
  case b2 => rw [hz2]; omega
  case b3 => unfold maxLen; omega
  intro w0 hown0 hgrow0
  go_wp2
  go_loopw [5, 6] (fun out si wr => ∃ i : Nat, i ≤ n1 ∧ si = .int .i64 i ∧ out = .slice (some ⟨w.heap.size, 0, none⟩) i (n1 + n2) ∧
      wr.ownsRow w.heap.size 9 1 (.slice (some ⟨w.heap.size, 0, none⟩) i (n1 + n2)) i ((A.take i).map Value.string) ∧ Below w.heap.size w wr)
    (fun _ si _ => n1 - (intOf si).toNat)
  case atStart => exact ⟨0, Nat.zero_le _, rfl, rfl, hown0, (Below.refl _ _).grown hgrow0 (Nat.le_refl _) (fun k h => by cases h)⟩
  case round =>
    clear hown0 hgrow0
    obtain ⟨i, hil, rfl, rfl, hown, hnx⟩ := hrel
    by_cases hlt : i < n1
    · obtain rfl : ao1 = some ⟨b1, o1, none⟩ := ha1 (by omega)
      obtain ⟨s, hs⟩ : ∃ s, s = A.getD i ByteArray.empty := ⟨_, rfl⟩
      have hcx : wr.cell? ⟨b1, o1 + i, none⟩ = some (.string s) := by rw [hs]; exact cell_later hnx (hc1 i hlt)
      have HT : Hid ((A.take (i + 1)).map Value.string = (A.take i).map Value.string ++ [Value.string s]) := by
        show _ = _
        rw [take_snoc A i ByteArray.empty (by omega), hs]; simp
      clear hs hc1 hc2
      go_wp2_with (at_builtin; refine wpList_append_fits _ rfl (.tmp 20) (.tmp 25) 22 rfl w.heap.size 9 i0 1 Try.underlying22 hi hz1 w.heap.size i (n1 + n2) _ rfl (hown.alloc _) ⟨wr.heap.size, 0, none⟩ 1 1 [.string s] rfl rfl (cell_one _ _ _) (one_string s) (by omega) ?_; intro w1 hown1 hgrow1)
      go_roundw
      case rel => exact ⟨i + 1, by omega, by go_num, rfl, by rw [HT.out]; exact hown1, (hnx.alloc hnx.size _).grown hgrow1 (by simp; have := hnx.size; omega) (fun k hk => by cases hk; exact Nat.le_refl _)⟩
      case measure => simp [intOf]; omega
    · obtain rfl : i = n1 := by omega
      have HA : Hid (A.take i = A) := List.take_of_length_le (by omega)
      rw [HA.out] at hown
      go_wp2
      go_loopw [5, 7] (fun out sj ws => ∃ j : Nat, j ≤ n2 ∧ sj = .int .i64 j ∧ out = .slice (some ⟨w.heap.size, 0, none⟩) (i + j) (i + n2) ∧
          ws.ownsRow w.heap.size 9 1 (.slice (some ⟨w.heap.size, 0, none⟩) (i + j) (i + n2)) (i + j) ((A ++ B.take j).map Value.string) ∧ Below w.heap.size w ws)
        (fun _ sj _ => n2 - (intOf sj).toNat)
      case atStart => exact ⟨0, Nat.zero_le _, rfl, rfl, by simpa using hown, hnx⟩
      case round =>
        clear hown hnx
        obtain ⟨j, hjl, rfl, rfl, hown, hnx⟩ := hrel
        by_cases hlt2 : j < n2
        · obtain rfl : ao2 = some ⟨b2, o2, none⟩ := ha2 (by omega)
          obtain ⟨s, hs⟩ : ∃ s, s = B.getD j ByteArray.empty := ⟨_, rfl⟩
          have hcx : wr.cell? ⟨b2, o2 + j, none⟩ = some (.string s) := by rw [hs]; exact cell_later hnx (hc2 j hlt2)
          have HT : Hid ((A ++ B.take (j + 1)).map Value.string = (A ++ B.take j).map Value.string ++ [Value.string s]) := by
            show _ = _
            rw [take_snoc B j ByteArray.empty (by omega), hs]; simp
          clear hs hc1 hc2
          go_wp2_with (at_builtin; refine wpList_append_fits _ rfl (.tmp 33) (.tmp 38) 22 rfl w.heap.size 9 i0 1 Try.underlying22 hi hz1 w.heap.size (i + j) (i + n2) _ rfl (hown.alloc _) ⟨wr.heap.size, 0, none⟩ 1 1 [.string s] rfl rfl (cell_one _ _ _) (one_string s) (by omega) ?_; intro w1 hown1 hgrow1)
          go_roundw
          case rel => exact ⟨j + 1, by omega, by go_num, rfl, by rw [HT.out]; exact hown1, (hnx.alloc hnx.size _).grown hgrow1 (by simp; have := hnx.size; omega) (fun k hk => by cases hk; exact Nat.le_refl _)⟩
          case measure => simp [intOf]; omega
        · obtain rfl : j = n2 := by omega
          have HB : Hid (B.take j = B) := List.take_of_length_le (by omega)
          rw [HB.out] at hown
          go_wp2
          go_ret
          exact ⟨rfl, Strs.owned (by simp; omega) Hz.out hown, hnx⟩

set_option maxHeartbeats 1000000 in
theorem join3_any (ao1 ao2 : Option Addr) (n1 c1 n2 c2 : Nat) (A B : List ByteArray) (mid : ByteArray) (w : World) (hn1 : n1 ≤ 1048576) (hn2 : n2 ≤ 1048576) (hmid : mid.size ≤ maxLen) (h1 : Strs w ao1 n1 A) (h2 : Strs w ao2 n2 B) :
    Calls Try.prog 9 #[.slice ao1 n1 c1, .string mid, .slice ao2 n2 c2] w fun e w' =>
      e = .returned (.slice (some ⟨w.heap.size, 0, none⟩) (n1 + 1 + n2) (n1 + n2 + 1)) ∧ Strs w' (some ⟨w.heap.size, 0, none⟩) (n1 + 1 + n2) (A ++ mid :: B) ∧ Below w.heap.size w w' := by
  obtain ⟨i0, hi, hz0, hz1, hz2⟩ := info_parts Try.info9
  obtain ⟨b1, o1, ha1, hc1⟩ := h1.parts
  obtain ⟨b2, o2, ha2, hc2⟩ := h2.parts
  have hl1 := h1.1
  have hl2 := h2.1
  have Hz : Hid (∀ s ∈ A ++ mid :: B, s.size ≤ maxLen) := by
    intro s hs
    rcases List.mem_append.1 hs with h | h
    · exact h1.2.1 s h
    · rcases List.mem_cons.1 h with h | h
      · rw [h]; exact hmid
      · exact h2.2.1 s h
  clear h1 h2
  go_enter Try.func9, Try.ntmps9
  go_wp2_with (at_make; refine wpList_make_own _ rfl _ _ 22 rfl w.heap.size 9 i0 (.string ⟨#[]⟩) 1 Try.underlying22 hi hz0 hz1 _ _ _ (n1 + n2 + 1) rfl rfl (by omega) ?b2 ?b3 (Nat.le_refl _) ?_)
  case b2 => rw [hz2]; omega
  case b3 => unfold maxLen; omega
  intro w0 hown0 hgrow0
  go_wp2
  go_loopw [7, 8] (fun out si wr => ∃ i : Nat, i ≤ n1 ∧ si = .int .i64 i ∧ out = .slice (some ⟨w.heap.size, 0, none⟩) i (n1 + n2 + 1) ∧
      wr.ownsRow w.heap.size 9 1 (.slice (some ⟨w.heap.size, 0, none⟩) i (n1 + n2 + 1)) i ((A.take i).map Value.string) ∧ Below w.heap.size w wr)
    (fun _ si _ => n1 - (intOf si).toNat)
  case atStart => exact ⟨0, Nat.zero_le _, rfl, rfl, hown0, (Below.refl _ _).grown hgrow0 (Nat.le_refl _) (fun k h => by cases h)⟩
  case round =>
    clear hown0 hgrow0
    obtain ⟨i, hil, rfl, rfl, hown, hnx⟩ := hrel
    by_cases hlt : i < n1
    · obtain rfl : ao1 = some ⟨b1, o1, none⟩ := ha1 (by omega)
      obtain ⟨s, hs⟩ : ∃ s, s = A.getD i ByteArray.empty := ⟨_, rfl⟩
      have hcx : wr.cell? ⟨b1, o1 + i, none⟩ = some (.string s) := by rw [hs]; exact cell_later hnx (hc1 i hlt)
      have HT : Hid ((A.take (i + 1)).map Value.string = (A.take i).map Value.string ++ [Value.string s]) := by
        show _ = _
        rw [take_snoc A i ByteArray.empty (by omega), hs]; simp
      clear hs hc1 hc2
      go_wp2_with (at_builtin; refine wpList_append_fits _ rfl (.tmp 23) (.tmp 28) 22 rfl w.heap.size 9 i0 1 Try.underlying22 hi hz1 w.heap.size i (n1 + n2 + 1) _ rfl (hown.alloc _) ⟨wr.heap.size, 0, none⟩ 1 1 [.string s] rfl rfl (cell_one _ _ _) (one_string s) (by omega) ?_; intro w1 hown1 hgrow1)
      go_roundw
      case rel => exact ⟨i + 1, by omega, by go_num, rfl, by rw [HT.out]; exact hown1, (hnx.alloc hnx.size _).grown hgrow1 (by simp; have := hnx.size; omega) (fun k hk => by cases hk; exact Nat.le_refl _)⟩
      case measure => simp [intOf]; omega
    · obtain rfl : i = n1 := by omega
      have HA : Hid (A.take i = A) := List.take_of_length_le (by omega)
      rw [HA.out] at hown
      go_wp2_with (at_builtin; refine wpList_append_fits _ rfl (.tmp 30) (.tmp 32) 22 rfl w.heap.size 9 i0 1 Try.underlying22 hi hz1 w.heap.size i (i + n2 + 1) _ rfl (hown.alloc _) ⟨wr.heap.size, 0, none⟩ 1 1 [.string mid] rfl rfl (cell_one _ _ _) (one_string mid) (by omega) ?_; intro w1 hown1 hgrow1)
      have hnx1 : Below w.heap.size w w1 := (hnx.alloc hnx.size _).grown hgrow1 (by simp; have := hnx.size; omega) (fun k hk => by cases hk; exact Nat.le_refl _)
      clear hgrow1 hown hnx
      go_loopw [7, 9] (fun out sj ws => ∃ j : Nat, j ≤ n2 ∧ sj = .int .i64 j ∧ out = .slice (some ⟨w.heap.size, 0, none⟩) (i + 1 + j) (i + n2 + 1) ∧
          ws.ownsRow w.heap.size 9 1 (.slice (some ⟨w.heap.size, 0, none⟩) (i + 1 + j) (i + n2 + 1)) (i + 1 + j) ((A ++ mid :: B.take j).map Value.string) ∧ Below w.heap.size w ws)
        (fun _ sj _ => n2 - (intOf sj).toNat)
      case atStart => exact ⟨0, Nat.zero_le _, rfl, rfl, by simpa using hown1, hnx1⟩
      case round =>
        clear hown1 hnx1
        obtain ⟨j, hjl, rfl, rfl, hown, hnx⟩ := hrel
        by_cases hlt2 : j < n2
        · obtain rfl : ao2 = some ⟨b2, o2, none⟩ := ha2 (by omega)
          obtain ⟨s, hs⟩ : ∃ s, s = B.getD j ByteArray.empty := ⟨_, rfl⟩
          have hcx : wr.cell? ⟨b2, o2 + j, none⟩ = some (.string s) := by rw [hs]; exact cell_later hnx (hc2 j hlt2)
          have HT : Hid ((A ++ mid :: B.take (j + 1)).map Value.string = (A ++ mid :: B.take j).map Value.string ++ [Value.string s]) := by
            show _ = _
            rw [take_snoc B j ByteArray.empty (by omega), hs]; simp
          clear hs hc1 hc2
          go_wp2_with (at_builtin; refine wpList_append_fits _ rfl (.tmp 40) (.tmp 45) 22 rfl w.heap.size 9 i0 1 Try.underlying22 hi hz1 w.heap.size (i + 1 + j) (i + n2 + 1) _ rfl (hown.alloc _) ⟨wr.heap.size, 0, none⟩ 1 1 [.string s] rfl rfl (cell_one _ _ _) (one_string s) (by omega) ?_; intro w2 hown2 hgrow2)
          go_roundw
          case rel => exact ⟨j + 1, by omega, by go_num, rfl, by rw [HT.out]; exact hown2, (hnx.alloc hnx.size _).grown hgrow2 (by simp; have := hnx.size; omega) (fun k hk => by cases hk; exact Nat.le_refl _)⟩
          case measure => simp [intOf]; omega
        · obtain rfl : j = n2 := by omega
          have HB : Hid (B.take j = B) := List.take_of_length_le (by omega)
          rw [HB.out] at hown
          go_wp2
          go_ret
          exact ⟨rfl, Strs.owned (by simp; omega) Hz.out hown, hnx⟩
end Go.Proofs.Qxb6617400a
