/-
  Bytes in memory; reader.space and ZZSpace by contracts.
-/
import Derived.Test.Qxb6618168aRows
import Derived.WalkKit
import Derived.WalkSpells
import Derived.WalkLawsBesides
import Derived.BigQuiet
import Derived.Deep.QuietTactic
import Derived.Deep.LoopGhost
namespace Go.Proofs.Qxb6618168a
open Go.RowKit
set_option linter.unusedVariables false

/-- White space of JSON. -/
def spB (c : Int) : Bool := (c == 32) || (c == 9) || (c == 10) || (c == 13)
/-- The first place from k on that is no white space, or the end. -/
def stop (D : List Int) (k : Nat) : Nat := k + ((D.drop k).takeWhile spB).length

/-- The slice (ao, n) holds the bytes D. -/
def Bytes (w : World) (ao : Option Addr) (n : Nat) (D : List Int) : Prop :=
  D.length = n ∧ (n = 0 ∨ ∃ b off, ao = some ⟨b, off, none⟩ ∧ ∀ i, i < n → w.cell? ⟨b, off + i, none⟩ = some (.int .u8 (D.getD i 0)))

theorem Bytes.parts {w : World} {ao : Option Addr} {n : Nat} {D : List Int} (h : Bytes w ao n D) :
    ∃ b off, (0 < n → ao = some ⟨b, off, none⟩) ∧ ∀ i, i < n → w.cell? ⟨b, off + i, none⟩ = some (.int .u8 (D.getD i 0)) := by
  obtain ⟨_, h0 | ⟨b, off, hao, hc⟩⟩ := h
  · exact ⟨0, 0, fun h => by omega, fun i hi => by omega⟩
  · exact ⟨b, off, fun _ => hao, hc⟩

theorem Bytes.later {w w' : World} {ao : Option Addr} {n : Nat} {D : List Int} (h : Bytes w ao n D) (hb : Below w.heap.size w w') : Bytes w' ao n D := by
  obtain ⟨hl, h0 | ⟨b, off, hao, hc⟩⟩ := h
  · exact ⟨hl, .inl h0⟩
  · exact ⟨hl, .inr ⟨b, off, hao, fun i hi => cell_later hb (hc i hi)⟩⟩

theorem stop_le (D : List Int) (k : Nat) (hk : k ≤ D.length) : k ≤ stop D k ∧ stop D k ≤ D.length := by
  unfold stop
  have : ((D.drop k).takeWhile spB).length ≤ (D.drop k).length := (List.takeWhile_prefix spB).length_le
  rw [List.length_drop] at this
  omega

theorem stop_step (D : List Int) (k : Nat) (hk : k < D.length) (h : spB (D.getD k 0) = true) : stop D k = stop D (k + 1) := by
  unfold stop
  have e : D.drop k = D.getD k 0 :: D.drop (k + 1) := by
    rw [List.drop_eq_getElem_cons hk]; simp [List.getD, hk]
  rw [e, List.takeWhile_cons, h]
  simp
  omega

theorem stop_here (D : List Int) (k : Nat) (hk : k < D.length) (h : spB (D.getD k 0) = false) : stop D k = k := by
  unfold stop
  have e : D.drop k = D.getD k 0 :: D.drop (k + 1) := by
    rw [List.drop_eq_getElem_cons hk]; simp [List.getD, hk]
  rw [e, List.takeWhile_cons, h]
  simp

theorem stop_end (D : List Int) (k : Nat) (hk : D.length ≤ k) : stop D k = k := by
  unfold stop
  rw [List.drop_eq_nil_of_le hk]
  rfl

theorem ret_bool {a b : Bool} (h : a = b) : Ending.returned (.bool a) = .returned (.bool b) := by rw [h]

/-- wr is w but for the reader's place. -/
structure SameBut (g : Nat) (w wr : World) : Prop where
  size : wr.heap.size = w.heap.size
  cell : ∀ a : Addr, a ≠ ⟨g, 1, none⟩ → wr.cell? a = w.cell? a
  frozen : ∀ a, wr.frozen? a = w.frozen? a
  below : Below g w wr

theorem SameBut.refl (g : Nat) (w : World) : SameBut g w w := ⟨rfl, fun _ _ => rfl, fun _ => rfl, Below.refl _ _⟩
theorem SameBut.drewN {g : Nat} {w wr : World} (h : SameBut g w wr) (m : Nat) : SameBut g w (wr.drewN m) := ⟨h.size, h.cell, h.frozen, below_drewN h.below m⟩

theorem spB_no {x : Int} (h1 : (x == 32) = false) (h2 : (x == 9) = false) (h3 : (x == 10) = false) (h4 : (x == 13) = false) : spB x = false := by unfold spB; rw [h1, h2, h3, h4]; rfl
theorem spB_1 {x : Int} (h1 : (x == 32) = true) : spB x = true := by unfold spB; rw [h1]; rfl
theorem spB_2 {x : Int} (h1 : (x == 9) = true) : spB x = true := by unfold spB; rw [h1]; simp
theorem spB_3 {x : Int} (h1 : (x == 10) = true) : spB x = true := by unfold spB; rw [h1]; simp
theorem spB_4 {x : Int} (h1 : (x == 13) = true) : spB x = true := by unfold spB; rw [h1]; simp

theorem step_cell {g : Nat} {wr : World} {v : Value} (h : wr.cell? ⟨g, 1, none⟩ = some v) (u : Value) : (wr.setCell ⟨g, 1, none⟩ u).cell? ⟨g, 1, none⟩ = some u := World.cell?_setCell_same wr _ u h
theorem step_same {g : Nat} {w wr : World} (h : SameBut g w wr) (u : Value) : SameBut g w (wr.setCell ⟨g, 1, none⟩ u) :=
  ⟨by simpa using h.size, fun a ha => (World.cell?_setCell_other wr _ a u (fun e => ha e.symm)).trans (h.cell a ha), fun a => by simpa using h.frozen a, h.below.setCell (Nat.le_refl _) _⟩

set_option maxHeartbeats 1000000 in
theorem space_any (g n c k : Nat) (ao : Option Addr) (D : List Int) (w : World) (hB : Bytes w ao n D) (hbg : ∀ b off, ao = some ⟨b, off, none⟩ → 0 < n → b ≠ g)
    (h0 : w.cell? ⟨g, 0, none⟩ = some (.slice ao n c)) (h1 : w.cell? ⟨g, 1, none⟩ = some (.int .i64 k)) (hf : w.frozen? ⟨g, 1, none⟩ = false) (hk : k ≤ n) (hn : n ≤ 1048576) :
    Calls Try.prog 15 #[.pointer (some ⟨g, 0, none⟩)] w fun e w' => e = .returned (.bool (decide (stop D k < n))) ∧ w'.cell? ⟨g, 1, none⟩ = some (.int .i64 (stop D k)) ∧ SameBut g w w' := by
  obtain ⟨b, o, ha, hc⟩ := hB.parts
  have HL : Hid (D.length = n) := hB.1
  clear hB
  go_enter Try.func15, Try.ntmps15
  go_wp2
  go_loopg [] (n - k) (fun m wr => ∃ j : Nat, k ≤ j ∧ j ≤ n ∧ m = n - j ∧ stop D k = stop D j ∧ wr.cell? ⟨g, 1, none⟩ = some (.int .i64 j) ∧ SameBut g w wr)
  case atStart => exact ⟨k, Nat.le_refl _, hk, rfl, rfl, h1, SameBut.refl _ _⟩
  case round =>
    obtain ⟨j, hkj, hjn, rfl, hst, hj1, hsb⟩ := hrel
    have HST : Hid (stop D k = stop D j) := hst
    clear hst
    have q0 : wr.cell? ⟨g, 0, none⟩ = some (.slice ao n c) := (hsb.cell _ (by simp)).trans h0
    have qf : wr.frozen? ⟨g, 1, none⟩ = false := (hsb.frozen _).trans hf
    by_cases hlt : j < n
    · obtain rfl : ao = some ⟨b, o, none⟩ := ha (by omega)
      have hbb := hbg b o rfl (by omega)
      obtain ⟨x, hx⟩ : ∃ x, x = D.getD j 0 := ⟨_, rfl⟩
      have qc : wr.cell? ⟨b, o + j, none⟩ = some (.int .u8 x) := by
        rw [hx]; exact (hsb.cell _ (by intro e; exact hbb (congrArg Addr.block e))).trans (hc j hlt)
      have HX : Hid (x = D.getD j 0) := hx
      clear hx hc hbg h0 h1 hf ha
      go_wp2
      go_quiet (fail)
      go_wp2
      go_quiet (fail)
      go_wp2
      all_goals first
        | (have hno : spB x = false := spB_no (by assumption) (by assumption) (by assumption) (by assumption)
           have HE : Hid (stop D k = j) := by
             have e := HST.out
             rw [stop_here D j (by have := HL.out; omega) (by rw [← HX.out]; exact hno)] at e
             exact e
           clear hno
           go_ret
           exact ⟨ret_bool (by rw [HE.out]; simp [hlt]), by rw [HE.out]; exact hj1, hsb.drewN _⟩)
        | (have hyes : spB x = true := by first | exact spB_1 (by assumption) | exact spB_2 (by assumption) | exact spB_3 (by assumption) | exact spB_4 (by assumption)
           have HE : Hid (stop D k = stop D (j + 1)) := by
             have e := HST.out
             rw [stop_step D j (by have := HL.out; omega) (by rw [← HX.out]; exact hyes)] at e
             exact e
           clear hyes
           go_roundg (n - (j + 1))
           case measure => omega
           case rel => exact ⟨j + 1, by omega, by omega, rfl, HE.out, (step_cell (wr := wr.drewN _) hj1 (.int .i64 (j + 1))).trans (by simp), step_same (hsb.drewN _) _⟩)
    · have HE : Hid (stop D k = j ∧ ¬ stop D k < n) := by
        have e := HST.out
        have e2 := stop_end D j (by have := HL.out; omega)
        exact ⟨by omega, by omega⟩
      clear hc hbg h0 h1 hf ha
      go_wp2
      go_quiet (fail)
      go_wp2
      go_ret
      exact ⟨ret_bool (by rw [decide_eq_false HE.out.2]), by rw [HE.out.1]; exact hj1, hsb.drewN _⟩

set_option maxHeartbeats 1000000 in
theorem zzspace_any (n c k : Nat) (ao : Option Addr) (D : List Int) (depth : Int) (watch : Bool) (lo : Option Addr) (ln lc : Nat) (w : World) (hB : Bytes w ao n D) (hk : k ≤ n) (hn : n ≤ 1048576) :
    Calls Try.prog 10 #[.slice ao n c, .int .i64 k, .int .i64 depth, .bool watch, .slice lo ln lc] w fun e w' =>
      e = .returned (.tuple #[.bool (decide (stop D k < n)), .slice ao n c, .int .i64 (stop D k), .int .i64 depth, .bool watch, .slice lo ln lc]) ∧ Below w.heap.size w w' := by
  have hbg : ∀ b off, ao = some ⟨b, off, none⟩ → 0 < n → b ≠ w.heap.size := by
    intro b off e hn0
    obtain ⟨hl, h0 | ⟨b', off', e', hc⟩⟩ := hB
    · omega
    · rw [e] at e'
      cases e'
      have := World.block_lt_of_cell? w _ (hc 0 hn0)
      simp at this
      omega
  have hB1 := hB.later ((Below.refl w.heap.size w).alloc (Nat.le_refl _) (.cells #[.slice ao n c, .int .i64 k, .int .i64 depth, .bool watch, .slice lo ln lc] 34))
  have H15 : Hid (Calls Try.prog 15 #[.pointer (some ⟨w.heap.size, 0, none⟩)] (w.alloc (.cells #[.slice ao n c, .int .i64 k, .int .i64 depth, .bool watch, .slice lo ln lc] 34)) fun e w' => e = .returned (.bool (decide (stop D k < n))) ∧ w'.cell? ⟨w.heap.size, 1, none⟩ = some (.int .i64 (stop D k)) ∧ SameBut w.heap.size (w.alloc (.cells #[.slice ao n c, .int .i64 k, .int .i64 depth, .bool watch, .slice lo ln lc] 34)) w') :=
    space_any w.heap.size n c k ao D _ hB1 hbg (by simp) (by simp) (by simp) hk hn
  clear hB1 hbg hB
  generalize stop D k = r at *
  go_enter Try.func10, Try.ntmps10
  go_wp2_with fail
  refine H15.out.mono ?_
  rintro e w1 ⟨rfl, h1, hsb⟩
  have c0 : w1.cell? ⟨w.heap.size, 0, none⟩ = some (.slice ao n c) := (hsb.cell _ (by simp)).trans (by simp)
  have c2 : w1.cell? ⟨w.heap.size, 2, none⟩ = some (.int .i64 depth) := (hsb.cell _ (by simp)).trans (by simp)
  have c3 : w1.cell? ⟨w.heap.size, 3, none⟩ = some (.bool watch) := (hsb.cell _ (by simp)).trans (by simp)
  have c4 : w1.cell? ⟨w.heap.size, 4, none⟩ = some (.slice lo ln lc) := (hsb.cell _ (by simp)).trans (by simp)
  have hbel : Below w.heap.size w w1 := ((Below.refl _ _).alloc (Nat.le_refl _) _).trans hsb.below
  clear hsb H15
  go_wp2
  go_quiet (fail)
  go_wp2
  exact bodyPost_ret (v := .tuple #[.bool (decide (r < n)), .slice ao n c, .int .i64 r, .int .i64 depth, .bool watch, .slice lo ln lc]) (by simp [results, Try.results10, go_sem]) rfl ⟨rfl, below_drewN hbel _⟩
end Go.Proofs.Qxb6618168a
