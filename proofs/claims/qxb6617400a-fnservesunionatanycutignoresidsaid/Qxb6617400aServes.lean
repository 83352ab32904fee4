import Derived.Test.Qxb6617400aStr
namespace Go.Proofs.Qxb6617400a
open Go.RowKit
set_option linter.unusedVariables false

/-- The slice (ao, n) holds the strings ss. -/
def Strs (w : World) (ao : Option Addr) (n : Nat) (ss : List ByteArray) : Prop :=
  ss.length = n ∧ (∀ s ∈ ss, s.size ≤ maxLen) ∧ (n = 0 ∨ ∃ b off, ao = some ⟨b, off, none⟩ ∧ ∀ i, i < n → w.cell? ⟨b, off + i, none⟩ = some (.string (ss.getD i ByteArray.empty)))

theorem cell_alloc {w : World} {a : Addr} {v : Value} (h : w.cell? a = some v) (o : Obj) : (w.alloc o).cell? a = some v :=
  (World.cell?_alloc_lt w o a (World.block_lt_of_cell? w a h)).trans h

theorem servesB_nil (acc : ByteArray) : servesB [] acc = false := rfl

theorem take_snoc {α : Type} (l : List α) (k : Nat) (d : α) (h : k < l.length) : l.take (k + 1) = l.take k ++ [l.getD k d] := by
  rw [List.take_succ_eq_append_getElem h]
  simp [List.getD, h]

theorem servesB_snoc (l : List ByteArray) (a acc : ByteArray) : servesB (l ++ [a]) acc = (servesB l acc || matchB a acc) := by
  simp [servesB]

theorem servesB_hit (l : List ByteArray) (k : Nat) (acc : ByteArray) (hk : k < l.length) (h : matchB (l.getD k ByteArray.empty) acc = true) : servesB l acc = true := by
  unfold servesB
  rw [List.any_eq_true]
  refine ⟨l[k], List.getElem_mem hk, ?_⟩
  simpa [List.getD, hk] using h

set_option maxHeartbeats 400000 in
theorem serves_any (id acc : ByteArray) (ao : Option Addr) (n c : Nat) (ss : List ByteArray) (w : World) (hacc : acc.size ≤ maxLen) (hn : n ≤ 4194304) (h : Strs w ao n ss) :
    Calls Try.prog 16 #[.agg #[.string id, .slice ao n c], .string acc] w fun e w' => e = .returned (.bool (servesB ss acc)) ∧ Below w.heap.size w w' := by
  obtain ⟨hl, hsz, h0 | ⟨b, off, rfl, hc⟩⟩ := h
  · subst h0
    have hss : ss = [] := List.eq_nil_of_length_eq_zero hl
    subst hss
    go_enter Try.func16, Try.ntmps16
    go_wp2
    refine wp_loop_rounds 1 ?_
    rw [rounds_succ]
    go_wp2
    go_ret
    exact ⟨rfl, (Below.refl _ _).alloc (Nat.le_refl _) _⟩
  · go_enter Try.func16, Try.ntmps16
    go_wp2
    go_loop [12] (fun i => ∃ k : Nat, k ≤ n ∧ i = .int .i64 k ∧ servesB (ss.take k) acc = false) (fun i => n - (intOf i).toNat)
    case atStart => exact ⟨0, Nat.zero_le _, rfl, rfl⟩
    case round =>
      obtain ⟨k, hk, rfl, hno⟩ := hrel
      by_cases hlt : k < n
      · have hks : k < ss.length := by omega
        obtain ⟨s, hs⟩ : ∃ s, s = ss.getD k ByteArray.empty := ⟨_, rfl⟩
        have hcx := fun o => cell_alloc (hc k hlt) o
        have hsm : s.size ≤ maxLen := by rw [hs]; simp only [List.getD, List.getElem?_eq_getElem hks, Option.getD_some]; exact hsz _ (List.getElem_mem hks)
        rw [← hs] at hcx
        have HSt : Hid (matchB s acc = true → servesB ss acc = true) := fun h => servesB_hit ss k acc hks (by rw [← hs]; exact h)
        have HSf : Hid (matchB s acc = false → servesB (ss.take (k + 1)) acc = false) := fun h => by
          rw [take_snoc ss k ByteArray.empty hks, servesB_snoc, ← hs, hno, h]; rfl
        have hcm : (cutB s).size ≤ maxLen := by
          unfold cutB; split
          · rw [ByteArray.size_extract]; omega
          · exact hsm
        clear hs hno hc hsz hks
        have hm : Hid (matchB s acc = ((s.toList == acc.toList) || (starB s && pfxB acc (cutB s)))) := rfl
        cases he : (s.toList == acc.toList) with
        | true =>
          go_wp2_with (first | (go_at_call 17; refine (cutSuffix_any s _ hsm).mono ?_; rintro e w' ⟨rfl, rfl⟩) | (go_at_call 18; refine (hasPrefix_any acc (cutB s) _ hacc hcm).mono ?_; rintro e w' ⟨rfl, rfl⟩))
          go_ret
          exact ⟨ret_bool (HSt.out (by rw [hm.out, he]; rfl)).symm, (Below.refl _ _).alloc (Nat.le_refl _) _⟩
        | false =>
          cases hst : starB s with
          | true =>
            cases hpf : pfxB acc (cutB s) with
            | true =>
              go_wp2_with (first | (go_at_call 17; refine (cutSuffix_any s _ hsm).mono ?_; rintro e w' ⟨rfl, rfl⟩) | (go_at_call 18; refine (hasPrefix_any acc (cutB s) _ hacc hcm).mono ?_; rintro e w' ⟨rfl, rfl⟩))
              go_ret
              exact ⟨ret_bool (HSt.out (by rw [hm.out, he, hst, hpf]; rfl)).symm, (Below.refl _ _).alloc (Nat.le_refl _) _⟩
            | false =>
              go_wp2_with (first | (go_at_call 17; refine (cutSuffix_any s _ hsm).mono ?_; rintro e w' ⟨rfl, rfl⟩) | (go_at_call 18; refine (hasPrefix_any acc (cutB s) _ hacc hcm).mono ?_; rintro e w' ⟨rfl, rfl⟩))
              go_round
              case rel => exact ⟨k + 1, by omega, by go_num, HSf.out (by rw [hm.out, he, hst, hpf]; rfl)⟩
              case measure => simp [intOf]; omega
          | false =>
            go_wp2_with (first | (go_at_call 17; refine (cutSuffix_any s _ hsm).mono ?_; rintro e w' ⟨rfl, rfl⟩) | (go_at_call 18; refine (hasPrefix_any acc (cutB s) _ hacc hcm).mono ?_; rintro e w' ⟨rfl, rfl⟩))
            go_round
            case rel => exact ⟨k + 1, by omega, by go_num, HSf.out (by rw [hm.out, he, hst]; rfl)⟩
            case measure => simp [intOf]; omega
      · go_wp2
        go_ret
        refine ⟨ret_bool ?_, (Below.refl _ _).alloc (Nat.le_refl _) _⟩
        rw [List.take_of_length_le (by omega)] at hno
        exact hno.symm

set_option maxHeartbeats 400000 in
theorem scope_any (id acc : ByteArray) (ao : Option Addr) (n c : Nat) (ss : List ByteArray) (w : World) (hacc : acc.size ≤ maxLen) (hn : n ≤ 4194304) (h : Strs w ao n ss) :
    Calls Try.prog 11 #[.string id, .slice ao n c, .string acc] w fun e w' => e = .returned (.bool (servesB ss acc)) ∧ Below w.heap.size w w' := by
  have H := serves_any id acc ao n c ss w hacc hn h
  go_enter Try.func11, Try.ntmps11
  go_wp2_with fail
  refine H.mono ?_
  rintro e w' ⟨rfl, hb⟩
  go_wp2
  go_ret
  exact ⟨rfl, hb⟩
end Go.Proofs.Qxb6617400a
