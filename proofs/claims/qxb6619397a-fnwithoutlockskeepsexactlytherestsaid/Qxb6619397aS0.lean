/-
  The law, the first rows.
-/
import Derived.Test.Qxb6619397aFr
namespace Go.Proofs.Qxb6619397a
open Go.RowKit
set_option linter.unusedVariables false

set_option maxHeartbeats 4000000 in
set_option maxRecDepth 100000 in
theorem st0 {w0 : World} {ko tq xo io ao : Option Addr} {n kc m mc xn xc jn jc an ac : Nat} {items : Int} (a : Act) (w : World) (hb : Below w0.heap.size w0 w) (hF : Fr a [(0, .slice ko n kc), (1, .slice tq m mc), (2, .slice xo xn xc), (3, .slice io jn jc), (4, .int .i64 items), (5, .slice ao an ac)]) 
    (K' : Act → World → Prop) (hK' : ∀ a' w', (IF [(0, .slice ko n kc), (1, .slice tq m mc), (2, .slice xo xn xc), (3, .slice io jn jc), (4, .int .i64 items), (5, .slice ao an ac)] w) a' w' → K' a' w') : (S (Try.f3.body.getD .skip) 0).wp Try.prog (Exit.then K' (bodyPost Try.prog Try.f3 (Good w0))) a w := by
  obtain ⟨f, rfl, hf⟩ := hF.opened
  have g0 : f 0 = .slice ko n kc := hf (0, .slice ko n kc) (by simp)
  have g1 : f 1 = .slice tq m mc := hf (1, .slice tq m mc) (by simp)
  have g2 : f 2 = .slice xo xn xc := hf (2, .slice xo xn xc) (by simp)
  have g3 : f 3 = .slice io jn jc := hf (3, .slice io jn jc) (by simp)
  have g4 : f 4 = .int .i64 items := hf (4, .int .i64 items) (by simp)
  have g5 : f 5 = .slice ao an ac := hf (5, .slice ao an ac) (by simp)
  clear hf hF
  rw [lit]
  simp only [g0, g1, g2, g3, g4, g5]
  clear g0 g1 g2 g3 g4 g5
  conv => arg 2; whnf
  go_wp2
  exact ⟨⟨rfl, rfl, ⟨rfl, rfl, rfl, rfl, rfl, rfl, trivial⟩⟩, rfl⟩

set_option maxHeartbeats 4000000 in
set_option maxRecDepth 100000 in
theorem st1 {w0 : World} {ko tq xo io ao : Option Addr} {n kc m mc xn xc jn jc an ac : Nat} {items : Int} (a : Act) (w : World) (hb : Below w0.heap.size w0 w) (hF : Fr a [(0, .slice ko n kc), (1, .slice tq m mc), (2, .slice xo xn xc), (3, .slice io jn jc), (4, .int .i64 items), (5, .slice ao an ac)]) {T : List ByteArray} (hlT : T.length = m) (hT : Row w tq (T.map Value.string)) (b1 : n ≤ maxLen) (b2 : m ≤ maxLen) (b3 : xn ≤ maxLen) (b4 : jn ≤ maxLen) (b5 : an ≤ maxLen)
    (K' : Act → World → Prop) (hK' : ∀ a' w', (IF [(0, .slice ko n kc), (1, .slice tq m mc), (2, .slice xo xn xc), (3, .slice io jn jc), (4, .int .i64 items), (5, .slice ao an ac)] w) a' w' → K' a' w') : (S (Try.f3.body.getD .skip) 1).wp Try.prog (Exit.then K' (bodyPost Try.prog Try.f3 (Good w0))) a w := by
  obtain ⟨f, rfl, hf⟩ := hF.opened
  have g0 : f 0 = .slice ko n kc := hf (0, .slice ko n kc) (by simp)
  have g1 : f 1 = .slice tq m mc := hf (1, .slice tq m mc) (by simp)
  have g2 : f 2 = .slice xo xn xc := hf (2, .slice xo xn xc) (by simp)
  have g3 : f 3 = .slice io jn jc := hf (3, .slice io jn jc) (by simp)
  have g4 : f 4 = .int .i64 items := hf (4, .int .i64 items) (by simp)
  have g5 : f 5 = .slice ao an ac := hf (5, .slice ao an ac) (by simp)
  clear hf hF
  rw [lit]
  simp only [g0, g1, g2, g3, g4, g5]
  clear g0 g1 g2 g3 g4 g5
  conv => arg 2; whnf
  have H5 : Hid (Calls Try.prog 5 #[.slice ko n kc, .slice tq m mc, .slice xo xn xc, .slice io jn jc, .int .i64 items, .slice ao an ac] w fun e w' => SomeBool e ∧ w' = w) := bytes5_any ko tq xo io ao n kc m mc xn xc jn jc an ac items T w hlT hT b1 b2 b3 b4 b5
  clear b1 b2 b3 b4 b5 hlT hT
  go_wp2_with fail
  refine H5.out.mono ?_
  rintro e w' ⟨⟨x, rfl⟩, hw⟩
  obtain rfl := hw.symm
  clear hw H5
  cases x
  · go_wp2
    go_ret
    exact ⟨rfl, hb⟩
  · go_wp2
    exact ⟨⟨rfl, rfl, ⟨rfl, rfl, rfl, rfl, rfl, rfl, trivial⟩⟩, rfl⟩

end Go.Proofs.Qxb6619397a
