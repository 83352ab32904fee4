/-
  The law, the lengths.
-/
import Derived.Test.Qxb6619397aFr
namespace Go.Proofs.Qxb6619397a
open Go.RowKit
set_option linter.unusedVariables false

set_option maxHeartbeats 4000000 in
set_option maxRecDepth 100000 in
theorem st21 {w0 : World} {ko tq xo io ao tt : Option Addr} {n kc m mc xc jc an ac zk zt zi za gk L R tc : Nat} {items : Int} (a : Act) (w : World) (hb : Below w0.heap.size w0 w) (hF : Fr a [(0, .slice ko n kc), (1, .slice tq m mc), (2, .slice xo n xc), (3, .slice io n jc), (4, .int .i64 items), (5, .slice ao an ac), (19, .slice (some ⟨zk, 0, none⟩) L L), (20, .slice tt R tc), (21, .slice (some ⟨zt, 0, none⟩) L L), (22, .slice (some ⟨zi, 0, none⟩) L L), (24, .slice (some ⟨za, 0, none⟩) L L), (26, .int .i64 (L : Int)), (33, .slice (some ⟨gk, 0, none⟩) R m)]) 
    (K' : Act → World → Prop) (hK' : ∀ a' w', (IF [(0, .slice ko n kc), (1, .slice tq m mc), (2, .slice xo n xc), (3, .slice io n jc), (4, .int .i64 items), (5, .slice ao an ac), (19, .slice (some ⟨zk, 0, none⟩) L L), (20, .slice tt R tc), (21, .slice (some ⟨zt, 0, none⟩) L L), (22, .slice (some ⟨zi, 0, none⟩) L L), (24, .slice (some ⟨za, 0, none⟩) L L), (26, .int .i64 (L : Int)), (33, .slice (some ⟨gk, 0, none⟩) R m)] w) a' w' → K' a' w') : (S (Try.f3.body.getD .skip) 21).wp Try.prog (Exit.then K' (bodyPost Try.prog Try.f3 (Good w0))) a w := by
  obtain ⟨f, rfl, hf⟩ := hF.opened
  have g0 : f 0 = .slice ko n kc := hf (0, .slice ko n kc) (by simp)
  have g1 : f 1 = .slice tq m mc := hf (1, .slice tq m mc) (by simp)
  have g2 : f 2 = .slice xo n xc := hf (2, .slice xo n xc) (by simp)
  have g3 : f 3 = .slice io n jc := hf (3, .slice io n jc) (by simp)
  have g4 : f 4 = .int .i64 items := hf (4, .int .i64 items) (by simp)
  have g5 : f 5 = .slice ao an ac := hf (5, .slice ao an ac) (by simp)
  have g6 : f 19 = .slice (some ⟨zk, 0, none⟩) L L := hf (19, .slice (some ⟨zk, 0, none⟩) L L) (by simp)
  have g7 : f 20 = .slice tt R tc := hf (20, .slice tt R tc) (by simp)
  have g8 : f 21 = .slice (some ⟨zt, 0, none⟩) L L := hf (21, .slice (some ⟨zt, 0, none⟩) L L) (by simp)
  have g9 : f 22 = .slice (some ⟨zi, 0, none⟩) L L := hf (22, .slice (some ⟨zi, 0, none⟩) L L) (by simp)
  have g10 : f 24 = .slice (some ⟨za, 0, none⟩) L L := hf (24, .slice (some ⟨za, 0, none⟩) L L) (by simp)
  have g11 : f 26 = .int .i64 (L : Int) := hf (26, .int .i64 (L : Int)) (by simp)
  have g12 : f 33 = .slice (some ⟨gk, 0, none⟩) R m := hf (33, .slice (some ⟨gk, 0, none⟩) R m) (by simp)
  clear hf hF
  rw [lit]
  simp only [g0, g1, g2, g3, g4, g5, g6, g7, g8, g9, g10, g11, g12]
  clear g0 g1 g2 g3 g4 g5 g6 g7 g8 g9 g10 g11 g12
  conv => arg 2; whnf
  go_wp2
  exact ⟨⟨rfl, rfl, ⟨rfl, rfl, rfl, rfl, rfl, rfl, rfl, rfl, rfl, rfl, rfl, rfl, rfl, trivial⟩⟩, rfl⟩

set_option maxHeartbeats 4000000 in
set_option maxRecDepth 100000 in
theorem st23 {w0 : World} {ko tq xo io ao tt : Option Addr} {n kc m mc xc jc an ac zk zt zi za gk L R tc : Nat} {items : Int} (a : Act) (w : World) (hb : Below w0.heap.size w0 w) (hF : Fr a [(0, .slice ko n kc), (1, .slice tq m mc), (2, .slice xo n xc), (3, .slice io n jc), (4, .int .i64 items), (5, .slice ao an ac), (19, .slice (some ⟨zk, 0, none⟩) L L), (20, .slice tt R tc), (21, .slice (some ⟨zt, 0, none⟩) L L), (22, .slice (some ⟨zi, 0, none⟩) L L), (24, .slice (some ⟨za, 0, none⟩) L L), (26, .int .i64 (L : Int)), (33, .slice (some ⟨gk, 0, none⟩) R m)]) 
    (K' : Act → World → Prop) (hK' : ∀ a' w', (IF [(0, .slice ko n kc), (1, .slice tq m mc), (2, .slice xo n xc), (3, .slice io n jc), (4, .int .i64 items), (5, .slice ao an ac), (19, .slice (some ⟨zk, 0, none⟩) L L), (20, .slice tt R tc), (21, .slice (some ⟨zt, 0, none⟩) L L), (22, .slice (some ⟨zi, 0, none⟩) L L), (24, .slice (some ⟨za, 0, none⟩) L L), (26, .int .i64 (L : Int)), (33, .slice (some ⟨gk, 0, none⟩) R m)] w) a' w' → K' a' w') : (S (Try.f3.body.getD .skip) 23).wp Try.prog (Exit.then K' (bodyPost Try.prog Try.f3 (Good w0))) a w := by
  obtain ⟨f, rfl, hf⟩ := hF.opened
  have g0 : f 0 = .slice ko n kc := hf (0, .slice ko n kc) (by simp)
  have g1 : f 1 = .slice tq m mc := hf (1, .slice tq m mc) (by simp)
  have g2 : f 2 = .slice xo n xc := hf (2, .slice xo n xc) (by simp)
  have g3 : f 3 = .slice io n jc := hf (3, .slice io n jc) (by simp)
  have g4 : f 4 = .int .i64 items := hf (4, .int .i64 items) (by simp)
  have g5 : f 5 = .slice ao an ac := hf (5, .slice ao an ac) (by simp)
  have g6 : f 19 = .slice (some ⟨zk, 0, none⟩) L L := hf (19, .slice (some ⟨zk, 0, none⟩) L L) (by simp)
  have g7 : f 20 = .slice tt R tc := hf (20, .slice tt R tc) (by simp)
  have g8 : f 21 = .slice (some ⟨zt, 0, none⟩) L L := hf (21, .slice (some ⟨zt, 0, none⟩) L L) (by simp)
  have g9 : f 22 = .slice (some ⟨zi, 0, none⟩) L L := hf (22, .slice (some ⟨zi, 0, none⟩) L L) (by simp)
  have g10 : f 24 = .slice (some ⟨za, 0, none⟩) L L := hf (24, .slice (some ⟨za, 0, none⟩) L L) (by simp)
  have g11 : f 26 = .int .i64 (L : Int) := hf (26, .int .i64 (L : Int)) (by simp)
  have g12 : f 33 = .slice (some ⟨gk, 0, none⟩) R m := hf (33, .slice (some ⟨gk, 0, none⟩) R m) (by simp)
  clear hf hF
  rw [lit]
  simp only [g0, g1, g2, g3, g4, g5, g6, g7, g8, g9, g10, g11, g12]
  clear g0 g1 g2 g3 g4 g5 g6 g7 g8 g9 g10 g11 g12
  conv => arg 2; whnf
  have hq := fun W => Lib.run_eql_slice_nil (P := Try.prog) W 24 3 (some ⟨za, 0, none⟩) L L 0 0 Try.underlying24
  go_wp2
  exact ⟨⟨rfl, rfl, ⟨rfl, rfl, rfl, rfl, rfl, rfl, rfl, rfl, rfl, rfl, rfl, rfl, rfl, trivial⟩⟩, rfl⟩

set_option maxHeartbeats 4000000 in
set_option maxRecDepth 100000 in
theorem st24 {w0 : World} {ko tq xo io ao tt : Option Addr} {n kc m mc xc jc an ac zk zt zi za gk L R tc : Nat} {items : Int} (a : Act) (w : World) (hb : Below w0.heap.size w0 w) (hF : Fr a [(0, .slice ko n kc), (1, .slice tq m mc), (2, .slice xo n xc), (3, .slice io n jc), (4, .int .i64 items), (5, .slice ao an ac), (19, .slice (some ⟨zk, 0, none⟩) L L), (20, .slice tt R tc), (21, .slice (some ⟨zt, 0, none⟩) L L), (22, .slice (some ⟨zi, 0, none⟩) L L), (24, .slice (some ⟨za, 0, none⟩) L L), (26, .int .i64 (L : Int)), (33, .slice (some ⟨gk, 0, none⟩) R m)]) 
    (K' : Act → World → Prop) (hK' : ∀ a' w', (IF [(0, .slice ko n kc), (1, .slice tq m mc), (2, .slice xo n xc), (3, .slice io n jc), (4, .int .i64 items), (5, .slice ao an ac), (19, .slice (some ⟨zk, 0, none⟩) L L), (20, .slice tt R tc), (21, .slice (some ⟨zt, 0, none⟩) L L), (22, .slice (some ⟨zi, 0, none⟩) L L), (24, .slice (some ⟨za, 0, none⟩) L L), (26, .int .i64 (L : Int)), (33, .slice (some ⟨gk, 0, none⟩) R m), (36, .int .i64 0)] w) a' w' → K' a' w') : (S (Try.f3.body.getD .skip) 24).wp Try.prog (Exit.then K' (bodyPost Try.prog Try.f3 (Good w0))) a w := by
  obtain ⟨f, rfl, hf⟩ := hF.opened
  have g0 : f 0 = .slice ko n kc := hf (0, .slice ko n kc) (by simp)
  have g1 : f 1 = .slice tq m mc := hf (1, .slice tq m mc) (by simp)
  have g2 : f 2 = .slice xo n xc := hf (2, .slice xo n xc) (by simp)
  have g3 : f 3 = .slice io n jc := hf (3, .slice io n jc) (by simp)
  have g4 : f 4 = .int .i64 items := hf (4, .int .i64 items) (by simp)
  have g5 : f 5 = .slice ao an ac := hf (5, .slice ao an ac) (by simp)
  have g6 : f 19 = .slice (some ⟨zk, 0, none⟩) L L := hf (19, .slice (some ⟨zk, 0, none⟩) L L) (by simp)
  have g7 : f 20 = .slice tt R tc := hf (20, .slice tt R tc) (by simp)
  have g8 : f 21 = .slice (some ⟨zt, 0, none⟩) L L := hf (21, .slice (some ⟨zt, 0, none⟩) L L) (by simp)
  have g9 : f 22 = .slice (some ⟨zi, 0, none⟩) L L := hf (22, .slice (some ⟨zi, 0, none⟩) L L) (by simp)
  have g10 : f 24 = .slice (some ⟨za, 0, none⟩) L L := hf (24, .slice (some ⟨za, 0, none⟩) L L) (by simp)
  have g11 : f 26 = .int .i64 (L : Int) := hf (26, .int .i64 (L : Int)) (by simp)
  have g12 : f 33 = .slice (some ⟨gk, 0, none⟩) R m := hf (33, .slice (some ⟨gk, 0, none⟩) R m) (by simp)
  clear hf hF
  rw [lit]
  simp only [g0, g1, g2, g3, g4, g5, g6, g7, g8, g9, g10, g11, g12]
  clear g0 g1 g2 g3 g4 g5 g6 g7 g8 g9 g10 g11 g12
  conv => arg 2; whnf
  go_wp2
  exact ⟨⟨rfl, rfl, ⟨rfl, rfl, rfl, rfl, rfl, rfl, rfl, rfl, rfl, rfl, rfl, rfl, rfl, rfl, trivial⟩⟩, rfl⟩

set_option maxHeartbeats 4000000 in
set_option maxRecDepth 100000 in
theorem st26 {w0 : World} (a : Act) (w : World) (hb : Below w0.heap.size w0 w) (hF : Fr a []) : (tailN 26 (Try.f3.body.getD .skip)).wp Try.prog (bodyPost Try.prog Try.f3 (Good w0)) a w := by
  obtain ⟨f, rfl, hf⟩ := hF.opened
  clear hf hF
  rw [lit]
  conv => arg 2; whnf
  go_wp2
  go_ret
  exact ⟨rfl, hb⟩

end Go.Proofs.Qxb6619397a
