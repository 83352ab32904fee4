/-
  The law, the guards of equal length.
-/
import Derived.Test.Qxb6619397aFr
namespace Go.Proofs.Qxb6619397a
open Go.RowKit
set_option linter.unusedVariables false

def I9 (l : List (Nat × Value)) (n xn jn : Nat) (w : World) (a' : Act) (w' : World) : Prop := Fr a' l ∧ w' = w ∧ xn = n ∧ jn = n
def I10 (l : List (Nat × Value)) (ao : Option Addr) (an n : Nat) (w : World) (a' : Act) (w' : World) : Prop := Fr a' l ∧ w' = w ∧ (ao = none ∨ an = n)

set_option maxHeartbeats 4000000 in
set_option maxRecDepth 100000 in
theorem st9 {w0 : World} {ko tq xo io ao : Option Addr} {n kc m mc xn xc jn jc an ac : Nat} {items : Int} (a : Act) (w : World) (hb : Below w0.heap.size w0 w) (hF : Fr a [(0, .slice ko n kc), (1, .slice tq m mc), (2, .slice xo xn xc), (3, .slice io jn jc), (4, .int .i64 items), (5, .slice ao an ac)]) (h1 : n ≤ 65536) (h3 : xn ≤ 65536) (h4 : jn ≤ 65536)
    (K' : Act → World → Prop) (hK' : ∀ a' w', (I9 [(0, .slice ko n kc), (1, .slice tq m mc), (2, .slice xo n xc), (3, .slice io n jc), (4, .int .i64 items), (5, .slice ao an ac)] n xn jn w) a' w' → K' a' w') : (S (Try.f3.body.getD .skip) 9).wp Try.prog (Exit.then K' (bodyPost Try.prog Try.f3 (Good w0))) a w := by
  obtain ⟨f, rfl, hf⟩ := hF.opened
  have g0 : f 0 = .slice ko n kc := hf (0, .slice ko n kc) (by simp)
  have g1 : f 1 = .slice tq m mc := hf (1, .slice tq m mc) (by simp)
  have g2 : f 2 = .slice xo xn xc := hf (2, .slice xo xn xc) (by simp)
  have g3 : f 3 = .slice io jn jc := hf (3, .slice io jn jc) (by simp)
  have g4 : f 4 = .int .i64 items := hf (4, .int .i64 items) (by simp)
  have g5 : f 5 = .slice ao an ac := hf (5, .slice ao an ac) (by simp)
  clear hf hF
  rw [lit]
  simp only [g0, g1, g2, g3, g4, g5]
  clear g0 g1 g2 g3 g4 g5
  conv => arg 2; whnf
  by_cases e1 : xn = n
  rotate_left
  · have t1 : ((xn : Int) == (n : Int)) = false := by simp; omega
    go_wp2
    go_ret
    exact ⟨rfl, hb⟩
  by_cases e2 : jn = n
  rotate_left
  · obtain rfl : n = xn := e1.symm
    have t1 : ((jn : Int) == (n : Int)) = false := by simp; omega
    clear e1
    go_wp2
    go_ret
    exact ⟨rfl, hb⟩
  obtain rfl : n = xn := e1.symm
  obtain rfl : n = jn := e2.symm
  clear e1 e2
  go_wp2
  exact ⟨⟨rfl, rfl, ⟨rfl, rfl, rfl, rfl, rfl, rfl, trivial⟩⟩, rfl, rfl, rfl⟩

set_option maxHeartbeats 4000000 in
set_option maxRecDepth 100000 in
theorem st10 {w0 : World} {ko tq xo io ao : Option Addr} {n kc m mc xc jc an ac : Nat} {items : Int} (a : Act) (w : World) (hb : Below w0.heap.size w0 w) (hF : Fr a [(0, .slice ko n kc), (1, .slice tq m mc), (2, .slice xo n xc), (3, .slice io n jc), (4, .int .i64 items), (5, .slice ao an ac)]) (h1 : n ≤ 65536) (h5 : an ≤ 65536)
    (K' : Act → World → Prop) (hK' : ∀ a' w', (I10 [(0, .slice ko n kc), (1, .slice tq m mc), (2, .slice xo n xc), (3, .slice io n jc), (4, .int .i64 items), (5, .slice ao an ac)] ao an n w) a' w' → K' a' w') : (S (Try.f3.body.getD .skip) 10).wp Try.prog (Exit.then K' (bodyPost Try.prog Try.f3 (Good w0))) a w := by
  obtain ⟨f, rfl, hf⟩ := hF.opened
  have g0 : f 0 = .slice ko n kc := hf (0, .slice ko n kc) (by simp)
  have g1 : f 1 = .slice tq m mc := hf (1, .slice tq m mc) (by simp)
  have g2 : f 2 = .slice xo n xc := hf (2, .slice xo n xc) (by simp)
  have g3 : f 3 = .slice io n jc := hf (3, .slice io n jc) (by simp)
  have g4 : f 4 = .int .i64 items := hf (4, .int .i64 items) (by simp)
  have g5 : f 5 = .slice ao an ac := hf (5, .slice ao an ac) (by simp)
  clear hf hF
  rw [lit]
  simp only [g0, g1, g2, g3, g4, g5]
  clear g0 g1 g2 g3 g4 g5
  conv => arg 2; whnf
  have hne := fun W => run_neq_slice_nil_any (P := Try.prog) W 24 3 ao an ac 0 0 Try.underlying24
  cases ao with
  | none =>
    go_wp2
    exact ⟨⟨rfl, rfl, ⟨rfl, rfl, rfl, rfl, rfl, rfl, trivial⟩⟩, rfl, .inl rfl⟩
  | some a0 =>
    by_cases e1 : an = n
    rotate_left
    · have t1 : ((an : Int) == (n : Int)) = false := by simp; omega
      go_wp2
      go_ret
      exact ⟨rfl, hb⟩
    · obtain rfl : n = an := e1.symm
      clear e1
      go_wp2
      exact ⟨⟨rfl, rfl, ⟨rfl, rfl, rfl, rfl, rfl, rfl, trivial⟩⟩, rfl, .inr rfl⟩

end Go.Proofs.Qxb6619397a
