/-
  The law, no lock: the operations.
-/
import Derived.Test.Qxb6619397aFr
import Derived.Test.Qxb6619397aV0
namespace Go.Proofs.Qxb6619397a
open Go.RowKit
set_option linter.unusedVariables false

set_option maxHeartbeats 4000000 in
set_option maxRecDepth 100000 in
theorem sv2 {w0 : World} {ko tq xo io ao k' t' : Option Addr} {n kc m mc xc jc an ac c' tc' : Nat} {items : Int} {KF : Act → World → Prop} {K X I : List Int} (a : Act) (w : World) (hb : Below w0.heap.size w0 w) (hF : Fr a [(0, .slice ko n kc), (1, .slice tq m mc), (2, .slice xo n xc), (3, .slice io n jc), (4, .int .i64 items), (5, .slice ao an ac), (19, .slice k' n c'), (20, .slice t' m tc'), (21, .slice xo n xc), (22, .slice io n jc), (24, .slice ao an ac)]) (hlK : K.length = n) (hlX : X.length = n) (hlI : I.length = n) (h1 : n ≤ 65536) (hK : Row w ko (K.map (Value.int .u8))) (hK2 : Row w k' (K.map (Value.int .u8))) (hX : Row w xo (X.map (Value.int .i64))) (hI : Row w io (I.map (Value.int .i64)))
    (K' : Act → World → Prop) (hK' : ∀ a' w', (IB [(0, .slice ko n kc), (1, .slice tq m mc), (2, .slice xo n xc), (3, .slice io n jc), (4, .int .i64 items), (5, .slice ao an ac), (19, .slice k' n c'), (20, .slice t' m tc'), (21, .slice xo n xc), (22, .slice io n jc), (24, .slice ao an ac)] w) a' w' → K' a' w') : (S (thenOf (S (Try.f3.body.getD .skip) 16)) 2).wp Try.prog (Exit.then K' (Exit.then KF (bodyPost Try.prog Try.f3 (Good w0)))) a w := by
  obtain ⟨f, rfl, hf⟩ := hF.opened
  have g0 : f 0 = .slice ko n kc := hf (0, .slice ko n kc) (by simp)
  have g1 : f 1 = .slice tq m mc := hf (1, .slice tq m mc) (by simp)
  have g2 : f 2 = .slice xo n xc := hf (2, .slice xo n xc) (by simp)
  have g3 : f 3 = .slice io n jc := hf (3, .slice io n jc) (by simp)
  have g4 : f 4 = .int .i64 items := hf (4, .int .i64 items) (by simp)
  have g5 : f 5 = .slice ao an ac := hf (5, .slice ao an ac) (by simp)
  have g6 : f 19 = .slice k' n c' := hf (19, .slice k' n c') (by simp)
  have g7 : f 20 = .slice t' m tc' := hf (20, .slice t' m tc') (by simp)
  have g8 : f 21 = .slice xo n xc := hf (21, .slice xo n xc) (by simp)
  have g9 : f 22 = .slice io n jc := hf (22, .slice io n jc) (by simp)
  have g10 : f 24 = .slice ao an ac := hf (24, .slice ao an ac) (by simp)
  clear hf hF
  rw [lit]
  simp only [g0, g1, g2, g3, g4, g5, g6, g7, g8, g9, g10]
  clear g0 g1 g2 g3 g4 g5 g6 g7 g8 g9 g10
  conv => arg 2; whnf
  obtain ⟨b, o, ha, hc⟩ := hK.parts
  obtain ⟨bk, ok, hak, hck⟩ := hK2.parts
  obtain ⟨bx, ox, hax, hcx⟩ := hX.parts
  obtain ⟨bi, oi, hai, hci⟩ := hI.parts
  clear hK hK2 hX hI
  go_wp2
  go_loopg [28] n (fun d si wr => ∃ (q : Nat), q ≤ n ∧ d = n - q ∧ si = .int .i64 q ∧ Hid (Below w.heap.size w wr))
  case atStart => exact ⟨0, Nat.zero_le _, rfl, rfl, Below.refl _ _⟩
  case round =>
    obtain ⟨q, hq, rfl, rfl, hst⟩ := hrel
    by_cases hlt : q < n
    · obtain rfl : ko = some ⟨b, o, none⟩ := ha (by simp; omega)
      obtain rfl : k' = some ⟨bk, ok, none⟩ := hak (by simp; omega)
      obtain rfl : xo = some ⟨bx, ox, none⟩ := hax (by simp; omega)
      obtain rfl : io = some ⟨bi, oi, none⟩ := hai (by simp; omega)
      obtain ⟨x, hx⟩ : ∃ x, x = K.getD q 0 := ⟨_, rfl⟩
      obtain ⟨y, hy⟩ : ∃ x, x = X.getD q 0 := ⟨_, rfl⟩
      obtain ⟨z, hz⟩ : ∃ x, x = I.getD q 0 := ⟨_, rfl⟩
      have c1 : wr.cell? ⟨b, o + q, none⟩ = some (.int .u8 x) := by rw [hx]; exact cell_later hst.out (hc q _ (map_at _ K 0 q (by omega)))
      have c2 : wr.cell? ⟨bk, ok + q, none⟩ = some (.int .u8 x) := by rw [hx]; exact cell_later hst.out (hck q _ (map_at _ K 0 q (by omega)))
      have c3 : wr.cell? ⟨bx, ox + q, none⟩ = some (.int .i64 y) := by rw [hy]; exact cell_later hst.out (hcx q _ (map_at _ X 0 q (by omega)))
      have c4 : wr.cell? ⟨bi, oi + q, none⟩ = some (.int .i64 z) := by rw [hz]; exact cell_later hst.out (hci q _ (map_at _ I 0 q (by omega)))
      clear hx hy hz hc ha hck hak hcx hax hci hai
      have hiR : (q : Int) < (n : Int) := by omega
      go_wp2
      go_quiet (fail)
      go_wp2
      go_roundg (n - (q + 1))
      case measure => omega
      case rel => exact ⟨q + 1, by omega, rfl, by go_num, below_drewN hst.out _⟩
    · obtain rfl : q = n := by omega
      clear hc ha hck hak hcx hax hci hai
      go_wp2
      exact ⟨⟨rfl, rfl, ⟨rfl, rfl, rfl, rfl, rfl, rfl, rfl, rfl, rfl, rfl, rfl, trivial⟩⟩, hst.out⟩

end Go.Proofs.Qxb6619397a
