/-
  The law, no lock: the lengths.
-/
import Derived.Test.Qxb6619397aFr
import Derived.Test.Qxb6619397aS22
namespace Go.Proofs.Qxb6619397a
open Go.RowKit
set_option linter.unusedVariables false

def thenOf : Code → Code
  | .seq _ (.cond _ u _) => u
  | c => c

set_option maxHeartbeats 4000000 in
set_option maxRecDepth 100000 in
theorem sv0 {w0 : World} {ko tq xo io ao k' t' : Option Addr} {n kc m mc xc jc an ac c' tc' : Nat} {items : Int} {KF : Act → World → Prop} (a : Act) (w : World) (hb : Below w0.heap.size w0 w) (hF : Fr a [(0, .slice ko n kc), (1, .slice tq m mc), (2, .slice xo n xc), (3, .slice io n jc), (4, .int .i64 items), (5, .slice ao an ac), (19, .slice k' n c'), (20, .slice t' m tc'), (21, .slice xo n xc), (22, .slice io n jc), (24, .slice ao an ac)]) 
    (K' : Act → World → Prop) (hK' : ∀ a' w', (IF [(0, .slice ko n kc), (1, .slice tq m mc), (2, .slice xo n xc), (3, .slice io n jc), (4, .int .i64 items), (5, .slice ao an ac), (19, .slice k' n c'), (20, .slice t' m tc'), (21, .slice xo n xc), (22, .slice io n jc), (24, .slice ao an ac)] w) a' w' → K' a' w') : (S (thenOf (S (Try.f3.body.getD .skip) 16)) 0).wp Try.prog (Exit.then K' (Exit.then KF (bodyPost Try.prog Try.f3 (Good w0)))) a w := by
  obtain ⟨f, rfl, hf⟩ := hF.opened
  have g0 : f 0 = .slice ko n kc := hf (0, .slice ko n kc) (by simp)
  have g1 : f 1 = .slice tq m mc := hf (1, .slice tq m mc) (by simp)
  have g2 : f 2 = .slice xo n xc := hf (2, .slice xo n xc) (by simp)
  have g3 : f 3 = .slice io n jc := hf (3, .slice io n jc) (by simp)
  have g4 : f 4 = .int .i64 items := hf (4, .int .i64 items) (by simp)
  have g5 : f 5 = .slice ao an ac := hf (5, .slice ao an ac) (by simp)
  have g6 : f 19 = .slice k' n c' := hf (19, .slice k' n c') (by simp)
  have g7 : f 20 = .slice t' m tc' := hf (20, .slice t' m tc') (by simp)
  have g8 : f 21 = .slice xo n xc := hf (21, .slice xo n xc) (by simp)
  have g9 : f 22 = .slice io n jc := hf (22, .slice io n jc) (by simp)
  have g10 : f 24 = .slice ao an ac := hf (24, .slice ao an ac) (by simp)
  clear hf hF
  rw [lit]
  simp only [g0, g1, g2, g3, g4, g5, g6, g7, g8, g9, g10]
  clear g0 g1 g2 g3 g4 g5 g6 g7 g8 g9 g10
  conv => arg 2; whnf
  go_wp2
  exact ⟨⟨rfl, rfl, ⟨rfl, rfl, rfl, rfl, rfl, rfl, rfl, rfl, rfl, rfl, rfl, trivial⟩⟩, rfl⟩

set_option maxHeartbeats 4000000 in
set_option maxRecDepth 100000 in
theorem sv1 {w0 : World} {ko tq xo io ao k' t' : Option Addr} {n kc m mc xc jc an ac c' tc' : Nat} {items : Int} {KF : Act → World → Prop} (a : Act) (w : World) (hb : Below w0.heap.size w0 w) (hF : Fr a [(0, .slice ko n kc), (1, .slice tq m mc), (2, .slice xo n xc), (3, .slice io n jc), (4, .int .i64 items), (5, .slice ao an ac), (19, .slice k' n c'), (20, .slice t' m tc'), (21, .slice xo n xc), (22, .slice io n jc), (24, .slice ao an ac)]) 
    (K' : Act → World → Prop) (hK' : ∀ a' w', (IF [(0, .slice ko n kc), (1, .slice tq m mc), (2, .slice xo n xc), (3, .slice io n jc), (4, .int .i64 items), (5, .slice ao an ac), (19, .slice k' n c'), (20, .slice t' m tc'), (21, .slice xo n xc), (22, .slice io n jc), (24, .slice ao an ac)] w) a' w' → K' a' w') : (S (thenOf (S (Try.f3.body.getD .skip) 16)) 1).wp Try.prog (Exit.then K' (Exit.then KF (bodyPost Try.prog Try.f3 (Good w0)))) a w := by
  obtain ⟨f, rfl, hf⟩ := hF.opened
  have g0 : f 0 = .slice ko n kc := hf (0, .slice ko n kc) (by simp)
  have g1 : f 1 = .slice tq m mc := hf (1, .slice tq m mc) (by simp)
  have g2 : f 2 = .slice xo n xc := hf (2, .slice xo n xc) (by simp)
  have g3 : f 3 = .slice io n jc := hf (3, .slice io n jc) (by simp)
  have g4 : f 4 = .int .i64 items := hf (4, .int .i64 items) (by simp)
  have g5 : f 5 = .slice ao an ac := hf (5, .slice ao an ac) (by simp)
  have g6 : f 19 = .slice k' n c' := hf (19, .slice k' n c') (by simp)
  have g7 : f 20 = .slice t' m tc' := hf (20, .slice t' m tc') (by simp)
  have g8 : f 21 = .slice xo n xc := hf (21, .slice xo n xc) (by simp)
  have g9 : f 22 = .slice io n jc := hf (22, .slice io n jc) (by simp)
  have g10 : f 24 = .slice ao an ac := hf (24, .slice ao an ac) (by simp)
  clear hf hF
  rw [lit]
  simp only [g0, g1, g2, g3, g4, g5, g6, g7, g8, g9, g10]
  clear g0 g1 g2 g3 g4 g5 g6 g7 g8 g9 g10
  conv => arg 2; whnf
  have hq := fun W => Lib.run_eql_slice_nil (P := Try.prog) W 24 3 ao an ac 0 0 Try.underlying24
  cases ao with
  | none =>
    go_wp2
    exact ⟨⟨rfl, rfl, ⟨rfl, rfl, rfl, rfl, rfl, rfl, rfl, rfl, rfl, rfl, rfl, trivial⟩⟩, rfl⟩
  | some a0 =>
    go_wp2
    exact ⟨⟨rfl, rfl, ⟨rfl, rfl, rfl, rfl, rfl, rfl, rfl, rfl, rfl, rfl, rfl, trivial⟩⟩, rfl⟩

set_option maxHeartbeats 4000000 in
set_option maxRecDepth 100000 in
theorem sv5 {w0 : World} {KF : Act → World → Prop} (a : Act) (w : World) (hb : Below w0.heap.size w0 w) (hF : Fr a []) : (tailN 5 (thenOf (S (Try.f3.body.getD .skip) 16))).wp Try.prog (Exit.then KF (bodyPost Try.prog Try.f3 (Good w0))) a w := by
  obtain ⟨f, rfl, hf⟩ := hF.opened
  clear hf hF
  rw [lit]
  conv => arg 2; whnf
  go_wp2
  go_ret
  exact ⟨rfl, hb⟩

end Go.Proofs.Qxb6619397a
