/-
  The law, the total.
-/
import Derived.Test.Qxb6619397aFr
namespace Go.Proofs.Qxb6619397a
open Go.RowKit
set_option linter.unusedVariables false

def I6 (l : List (Nat × Value)) (w : World) (a' : Act) (w' : World) : Prop := ∃ tot : Int, Fr a' (l ++ [(16, .int .i64 tot)]) ∧ w' = w

set_option maxHeartbeats 4000000 in
set_option maxRecDepth 100000 in
theorem st6 {w0 : World} {ko tq xo io ao : Option Addr} {n kc m mc xn xc jn jc an ac : Nat} {items : Int} (a : Act) (w : World) (hb : Below w0.heap.size w0 w) (hF : Fr a [(0, .slice ko n kc), (1, .slice tq m mc), (2, .slice xo xn xc), (3, .slice io jn jc), (4, .int .i64 items), (5, .slice ao an ac)]) (h1 : n ≤ 65536) (h2 : m ≤ 65536) (h3 : xn ≤ 65536) (h4 : jn ≤ 65536) (h5 : an ≤ 65536)
    (K' : Act → World → Prop) (hK' : ∀ a' w', (I6 [(0, .slice ko n kc), (1, .slice tq m mc), (2, .slice xo xn xc), (3, .slice io jn jc), (4, .int .i64 items), (5, .slice ao an ac)] w) a' w' → K' a' w') : (S (Try.f3.body.getD .skip) 6).wp Try.prog (Exit.then K' (bodyPost Try.prog Try.f3 (Good w0))) a w := by
  obtain ⟨f, rfl, hf⟩ := hF.opened
  have g0 : f 0 = .slice ko n kc := hf (0, .slice ko n kc) (by simp)
  have g1 : f 1 = .slice tq m mc := hf (1, .slice tq m mc) (by simp)
  have g2 : f 2 = .slice xo xn xc := hf (2, .slice xo xn xc) (by simp)
  have g3 : f 3 = .slice io jn jc := hf (3, .slice io jn jc) (by simp)
  have g4 : f 4 = .int .i64 items := hf (4, .int .i64 items) (by simp)
  have g5 : f 5 = .slice ao an ac := hf (5, .slice ao an ac) (by simp)
  clear hf hF
  rw [lit]
  simp only [g0, g1, g2, g3, g4, g5]
  clear g0 g1 g2 g3 g4 g5
  conv => arg 2; whnf
  go_wp2
  exact ⟨_, ⟨rfl, rfl, ⟨rfl, rfl, rfl, rfl, rfl, rfl, rfl, trivial⟩⟩, rfl⟩

set_option maxHeartbeats 4000000 in
set_option maxRecDepth 100000 in
theorem st7 {w0 : World} {ko tq xo io ao : Option Addr} {n kc m mc xn xc jn jc an ac : Nat} {items tot : Int} (a : Act) (w : World) (hb : Below w0.heap.size w0 w) (hF : Fr a [(0, .slice ko n kc), (1, .slice tq m mc), (2, .slice xo xn xc), (3, .slice io jn jc), (4, .int .i64 items), (5, .slice ao an ac), (16, .int .i64 tot)]) 
    (K' : Act → World → Prop) (hK' : ∀ a' w', (IF [(0, .slice ko n kc), (1, .slice tq m mc), (2, .slice xo xn xc), (3, .slice io jn jc), (4, .int .i64 items), (5, .slice ao an ac), (16, .int .i64 tot)] w) a' w' → K' a' w') : (S (Try.f3.body.getD .skip) 7).wp Try.prog (Exit.then K' (bodyPost Try.prog Try.f3 (Good w0))) a w := by
  obtain ⟨f, rfl, hf⟩ := hF.opened
  have g0 : f 0 = .slice ko n kc := hf (0, .slice ko n kc) (by simp)
  have g1 : f 1 = .slice tq m mc := hf (1, .slice tq m mc) (by simp)
  have g2 : f 2 = .slice xo xn xc := hf (2, .slice xo xn xc) (by simp)
  have g3 : f 3 = .slice io jn jc := hf (3, .slice io jn jc) (by simp)
  have g4 : f 4 = .int .i64 items := hf (4, .int .i64 items) (by simp)
  have g5 : f 5 = .slice ao an ac := hf (5, .slice ao an ac) (by simp)
  have g6 : f 16 = .int .i64 tot := hf (16, .int .i64 tot) (by simp)
  clear hf hF
  rw [lit]
  simp only [g0, g1, g2, g3, g4, g5, g6]
  clear g0 g1 g2 g3 g4 g5 g6
  conv => arg 2; whnf
  by_cases h1 : (1048576 : Int) < tot
  · go_wp2
    go_ret
    exact ⟨rfl, hb⟩
  · go_wp2
    exact ⟨⟨rfl, rfl, ⟨rfl, rfl, rfl, rfl, rfl, rfl, rfl, trivial⟩⟩, rfl⟩

end Go.Proofs.Qxb6619397a
