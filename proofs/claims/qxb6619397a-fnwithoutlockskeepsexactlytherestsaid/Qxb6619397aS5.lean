/-
  The law, a copy.
-/
import Derived.Test.Qxb6619397aFr
import Derived.Test.Qxb6619397aCopy
namespace Go.Proofs.Qxb6619397a
open Go.RowKit
set_option linter.unusedVariables false

def IC5 (ko tq xo io ao : Option Addr) (n kc m mc xn xc jn jc an ac : Nat) (items : Int) (D : List Int) (w : World) (a' : Act) (w' : World) : Prop :=
  ∃ r' c', Fr a' [(0, .slice ko n kc), (1, .slice tq m mc), (2, .slice xo xn xc), (3, .slice io jn jc), (4, .int .i64 items), (5, .slice r' an c')] ∧ (r' = none ∧ an = 0 ∧ c' = 0 ∨ ∃ gg, r' = some ⟨gg, 0, none⟩) ∧ Row w' r' (D.map (Value.int .i64)) ∧ Below w.heap.size w w'

set_option maxHeartbeats 4000000 in
set_option maxRecDepth 100000 in
theorem st5 {w0 : World} {ko tq xo io ao : Option Addr} {n kc m mc xn xc jn jc an ac : Nat} {items : Int} (a : Act) (w : World) (hb : Below w0.heap.size w0 w) (hF : Fr a [(0, .slice ko n kc), (1, .slice tq m mc), (2, .slice xo xn xc), (3, .slice io jn jc), (4, .int .i64 items), (5, .slice ao an ac)]) {D : List Int} (hl : D.length = an) (hle : an ≤ 65536) (hnil : ao = none → an = 0 ∧ ac = 0) (hR : Row w ao (D.map (Value.int .i64)))
    (K' : Act → World → Prop) (hK' : ∀ a' w', (IC5 ko tq xo io ao n kc m mc xn xc jn jc an ac items D w) a' w' → K' a' w') : (S (Try.f3.body.getD .skip) 5).wp Try.prog (Exit.then K' (bodyPost Try.prog Try.f3 (Good w0))) a w := by
  obtain ⟨f, rfl, hf⟩ := hF.opened
  have g0 : f 0 = .slice ko n kc := hf (0, .slice ko n kc) (by simp)
  have g1 : f 1 = .slice tq m mc := hf (1, .slice tq m mc) (by simp)
  have g2 : f 2 = .slice xo xn xc := hf (2, .slice xo xn xc) (by simp)
  have g3 : f 3 = .slice io jn jc := hf (3, .slice io jn jc) (by simp)
  have g4 : f 4 = .int .i64 items := hf (4, .int .i64 items) (by simp)
  have g5 : f 5 = .slice ao an ac := hf (5, .slice ao an ac) (by simp)
  clear hf hF
  rw [lit]
  simp only [g0, g1, g2, g3, g4, g5]
  clear g0 g1 g2 g3 g4 g5
  conv => arg 2; whnf
  obtain ⟨i3, hi3, hz03, hz3, hz23⟩ := info_parts Try.info3
  have hne := fun W => run_neq_slice_nil_any (P := Try.prog) W 24 3 ao an ac 0 0 Try.underlying24
  cases ao with
  | none =>
    obtain ⟨e1, e2⟩ := hnil rfl
    clear hnil
    subst e1
    subst e2
    go_wp2
    exact ⟨none, 0, ⟨rfl, rfl, ⟨rfl, rfl, rfl, rfl, rfl, rfl, trivial⟩⟩, .inl ⟨rfl, rfl, rfl⟩, hR, Below.refl _ _⟩
  | some a0 =>
    clear hnil
    go_wp2_with (at_make; refine wpList_make_full _ rfl _ _ 24 rfl w.heap.size 3 i3 (.int .i64 0) 1 Try.underlying24 hi3 hz03 hz3 _ _ _ _ an rfl rfl rfl rfl ?b2 ?b3 (Nat.le_refl _) ?_)
    case b2 => rw [hz23]; omega
    case b3 => unfold maxLen; omega
    intro w1 hown0 hgrow0
    have hb1 : Below w.heap.size w w1 := (Below.refl _ _).grown hgrow0 (Nat.le_refl _) (fun k h => by cases h)
    obtain ⟨cur, hcur, hcl, _⟩ := owned_H hown0
    obtain ⟨W, hcopy, hS, hBW⟩ := copy_run (c := ac) hl (hR.later hb1) hcur hcl hb1 (Nat.le_refl _)
    clear hown0 hgrow0 hcur hcl hb1 hi3 hz03 hz3 hz23
    go_wp2
    exact ⟨_, _, ⟨rfl, rfl, ⟨rfl, rfl, rfl, rfl, rfl, rfl, trivial⟩⟩, .inr ⟨_, rfl⟩, hS, hBW⟩

end Go.Proofs.Qxb6619397a
