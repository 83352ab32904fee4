/-
  The law, the loop over the texts.
-/
import Derived.Test.Qxb6619397aFr
namespace Go.Proofs.Qxb6619397a
open Go.RowKit
set_option linter.unusedVariables false

set_option maxHeartbeats 4000000 in
set_option maxRecDepth 100000 in
theorem st8 {w0 : World} {ko tq xo io ao : Option Addr} {n kc m mc xn xc jn jc an ac : Nat} {items tot : Int} (a : Act) (w : World) (hb : Below w0.heap.size w0 w) (hF : Fr a [(0, .slice ko n kc), (1, .slice tq m mc), (2, .slice xo xn xc), (3, .slice io jn jc), (4, .int .i64 items), (5, .slice ao an ac), (16, .int .i64 tot)]) {T : List ByteArray} (hlT : T.length = m) (h2 : m ≤ 65536) (hT : Row w tq (T.map Value.string))
    (K' : Act → World → Prop) (hK' : ∀ a' w', (IF [(0, .slice ko n kc), (1, .slice tq m mc), (2, .slice xo xn xc), (3, .slice io jn jc), (4, .int .i64 items), (5, .slice ao an ac)] w) a' w' → K' a' w') : (S (Try.f3.body.getD .skip) 8).wp Try.prog (Exit.then K' (bodyPost Try.prog Try.f3 (Good w0))) a w := by
  obtain ⟨f, rfl, hf⟩ := hF.opened
  have g0 : f 0 = .slice ko n kc := hf (0, .slice ko n kc) (by simp)
  have g1 : f 1 = .slice tq m mc := hf (1, .slice tq m mc) (by simp)
  have g2 : f 2 = .slice xo xn xc := hf (2, .slice xo xn xc) (by simp)
  have g3 : f 3 = .slice io jn jc := hf (3, .slice io jn jc) (by simp)
  have g4 : f 4 = .int .i64 items := hf (4, .int .i64 items) (by simp)
  have g5 : f 5 = .slice ao an ac := hf (5, .slice ao an ac) (by simp)
  have g6 : f 16 = .int .i64 tot := hf (16, .int .i64 tot) (by simp)
  clear hf hF
  rw [lit]
  simp only [g0, g1, g2, g3, g4, g5, g6]
  clear g0 g1 g2 g3 g4 g5 g6
  conv => arg 2; whnf
  obtain ⟨b, o, ha, hc⟩ := hT.parts
  clear hT
  go_wp2
  go_loopg [16, 17] m (fun d st si wr => ∃ (k : Nat) (x : Int), k ≤ m ∧ d = m - k ∧ si = .int .i64 k ∧ st = .int .i64 x ∧ wr = w)
  case atStart => exact ⟨0, _, Nat.zero_le _, rfl, rfl, rfl, rfl⟩
  case round =>
    obtain ⟨k, x, hk, rfl, rfl, rfl, hwr⟩ := hrel
    obtain rfl : w = wr := hwr.symm
    clear hwr
    by_cases hlt : k < m
    · obtain rfl : tq = some ⟨b, o, none⟩ := ha (by simp; omega)
      obtain ⟨s, hs⟩ : ∃ s, s = T.getD k ByteArray.empty := ⟨_, rfl⟩
      have hcx := hc k _ (map_at _ T ByteArray.empty k (by omega))
      rw [← hs] at hcx
      clear hs hc ha hlT
      go_wp2
      all_goals try (go_ret; exact ⟨rfl, hb⟩)
      go_roundg (m - (k + 1))
      case measure => omega
      case rel => exact ⟨k + 1, _, by omega, rfl, by go_num, rfl, rfl⟩
    · clear hc ha
      go_wp2
      exact ⟨⟨rfl, rfl, ⟨rfl, rfl, rfl, rfl, rfl, rfl, trivial⟩⟩, rfl⟩

end Go.Proofs.Qxb6619397a
