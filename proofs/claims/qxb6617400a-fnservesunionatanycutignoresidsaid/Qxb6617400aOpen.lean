/-
  A slice of strings among the arguments, opened into 'Strs'.
-/
import Derived.Test.Qxb6617400aServes
import Derived.ProofKit
import Derived.SliceStrings
namespace Go.Proofs.Qxb6617400a
open Go.ChangeShapes Go.WideShapes Go.ChangeAt Go.RowKit
set_option linter.unusedVariables false

theorem own : ownKnob Try.prog.godebug = none := by kernel_rfl
theorem laidOut : laidOutB Try.prog = true := by kernel_rfl

theorem strs_of_trod {H : Type} {enc : TypeId × Value → H} {W : World} {a : Option Addr} {len cap : Nat} {d : DataW H} {p : List MemPlace}
    (h : DataW.Trod enc Try.prog W 0 (fun _ => true) true 22 (.slice a len cap) d p) : ∃ ss, Strs W a len ss ∧ len ≤ maxLen := by
  obtain ⟨fuel, hf⟩ := h
  rcases open_strings Try.underlying22 Try.underlying9 (by kernel_rfl) hf with ⟨hcs, _⟩ | ⟨x, l, c, ss, hcs, _, hl, hm, hz, _, hcell, hws⟩
  · simp [Value.cells] at hcs
    obtain ⟨rfl, rfl, rfl⟩ := hcs
    exact ⟨[], ⟨rfl, fun s hs => (by cases hs), .inl rfl⟩, Nat.zero_le _⟩
  · simp [Value.cells] at hcs
    obtain ⟨rfl, rfl, rfl⟩ := hcs
    simp at hz
    refine ⟨ss.take len, ⟨by simp; omega, fun s hs => hws s (List.mem_of_mem_take hs), ?_⟩, by omega⟩
    by_cases h0 : len = 0
    · exact .inl h0
    · right
      obtain ⟨b, off, sp⟩ := x
      have hs : sp = none := World.cell?_spot (a := ⟨b, off, sp⟩) (by simpa [Addr.add] using hcell 0 (by omega))
      subst hs
      refine ⟨b, off, rfl, fun i hi => ?_⟩
      have e : (⟨b, off, none⟩ : Addr).add i = ⟨b, off + i, none⟩ := by
        unfold Addr.add
        split
        · next h => subst h; rfl
        · rfl
      have h2 := hcell i (by omega)
      rw [e] at h2
      rw [h2]
      simp [List.getD, hi]
end Go.Proofs.Qxb6617400a
