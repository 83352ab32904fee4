/-
  The law, the texts of the kept transactions.
-/
import Derived.Test.Qxb6619397aFr
import Derived.Test.Qxb6619397aS19
namespace Go.Proofs.Qxb6619397a
open Go.RowKit
set_option linter.unusedVariables false

def IB (l : List (Nat × Value)) (w : World) (a' : Act) (w' : World) : Prop := Fr a' l ∧ Below w.heap.size w w'

set_option maxHeartbeats 4000000 in
set_option maxRecDepth 100000 in
theorem st22 {w0 : World} {ko tq xo io ao tt : Option Addr} {n kc m mc xc jc an ac zk zt zi za gk L R tc : Nat} {items : Int} {U : Nat → Bool} {T : List ByteArray} (a : Act) (w : World) (hb : Below w0.heap.size w0 w) (hF : Fr a [(0, .slice ko n kc), (1, .slice tq m mc), (2, .slice xo n xc), (3, .slice io n jc), (4, .int .i64 items), (5, .slice ao an ac), (19, .slice (some ⟨zk, 0, none⟩) L L), (20, .slice tt R tc), (21, .slice (some ⟨zt, 0, none⟩) L L), (22, .slice (some ⟨zi, 0, none⟩) L L), (24, .slice (some ⟨za, 0, none⟩) L L), (26, .int .i64 (L : Int)), (33, .slice (some ⟨gk, 0, none⟩) R m)]) (hlT : T.length = m) (h2 : m ≤ 65536) (hLR : (ks U m).length = R) (hT : Row w tq (T.map Value.string)) (hZ : Row w tt (TX U T m)) (hK : Row w (some ⟨gk, 0, none⟩) (KR U m))
    (K' : Act → World → Prop) (hK' : ∀ a' w', (IB [(0, .slice ko n kc), (1, .slice tq m mc), (2, .slice xo n xc), (3, .slice io n jc), (4, .int .i64 items), (5, .slice ao an ac), (19, .slice (some ⟨zk, 0, none⟩) L L), (20, .slice tt R tc), (21, .slice (some ⟨zt, 0, none⟩) L L), (22, .slice (some ⟨zi, 0, none⟩) L L), (24, .slice (some ⟨za, 0, none⟩) L L), (26, .int .i64 (L : Int)), (33, .slice (some ⟨gk, 0, none⟩) R m)] w) a' w' → K' a' w') : (S (Try.f3.body.getD .skip) 22).wp Try.prog (Exit.then K' (bodyPost Try.prog Try.f3 (Good w0))) a w := by
  obtain ⟨f, rfl, hf⟩ := hF.opened
  have g0 : f 0 = .slice ko n kc := hf (0, .slice ko n kc) (by simp)
  have g1 : f 1 = .slice tq m mc := hf (1, .slice tq m mc) (by simp)
  have g2 : f 2 = .slice xo n xc := hf (2, .slice xo n xc) (by simp)
  have g3 : f 3 = .slice io n jc := hf (3, .slice io n jc) (by simp)
  have g4 : f 4 = .int .i64 items := hf (4, .int .i64 items) (by simp)
  have g5 : f 5 = .slice ao an ac := hf (5, .slice ao an ac) (by simp)
  have g6 : f 19 = .slice (some ⟨zk, 0, none⟩) L L := hf (19, .slice (some ⟨zk, 0, none⟩) L L) (by simp)
  have g7 : f 20 = .slice tt R tc := hf (20, .slice tt R tc) (by simp)
  have g8 : f 21 = .slice (some ⟨zt, 0, none⟩) L L := hf (21, .slice (some ⟨zt, 0, none⟩) L L) (by simp)
  have g9 : f 22 = .slice (some ⟨zi, 0, none⟩) L L := hf (22, .slice (some ⟨zi, 0, none⟩) L L) (by simp)
  have g10 : f 24 = .slice (some ⟨za, 0, none⟩) L L := hf (24, .slice (some ⟨za, 0, none⟩) L L) (by simp)
  have g11 : f 26 = .int .i64 (L : Int) := hf (26, .int .i64 (L : Int)) (by simp)
  have g12 : f 33 = .slice (some ⟨gk, 0, none⟩) R m := hf (33, .slice (some ⟨gk, 0, none⟩) R m) (by simp)
  clear hf hF
  rw [lit]
  simp only [g0, g1, g2, g3, g4, g5, g6, g7, g8, g9, g10, g11, g12]
  clear g0 g1 g2 g3 g4 g5 g6 g7 g8 g9 g10 g11 g12
  conv => arg 2; whnf
  obtain ⟨b, o, ha, hc⟩ := hT.parts
  obtain ⟨b2, o2, ha2, hc2⟩ := hZ.parts
  obtain ⟨b3, o3, ha3, hc3⟩ := hK.parts
  have hRm : R ≤ m := by rw [← hLR]; exact ks_le U m
  have HLR : Hid ((ks U m).length = R) := hLR
  clear hT hZ hK hLR
  go_wp2
  go_loopg [35] R (fun d si wr => ∃ (i : Nat), i ≤ R ∧ d = R - i ∧ si = .int .i64 i ∧ Hid (Below w.heap.size w wr))
  case atStart => exact ⟨0, Nat.zero_le _, rfl, rfl, Below.refl _ _⟩
  case round =>
    obtain ⟨i, hi, rfl, rfl, hst⟩ := hrel
    by_cases hlt : i < R
    · have hlen := HLR.out
      obtain ⟨s, hs⟩ : ∃ s, (ks U m)[i]? = some s := ⟨_, List.getElem?_eq_getElem (by omega)⟩
      have hsm : s < m := by
        have := List.mem_of_getElem? hs
        simp [ks] at this
        exact this.1
      obtain rfl : tq = some ⟨b, o, none⟩ := ha (by simp; omega)
      obtain rfl : tt = some ⟨b2, o2, none⟩ := ha2 (by rw [TX_len]; omega)
      have e3 := ha3 (by rw [KR_len]; omega)
      cases e3
      obtain ⟨y, hy⟩ : ∃ y, y = T.getD s ByteArray.empty := ⟨_, rfl⟩
      have c1 : wr.cell? ⟨b, o + s, none⟩ = some (.string y) := by rw [hy]; exact cell_later hst.out (hc s _ (map_at _ T ByteArray.empty s (by omega)))
      have c2 : wr.cell? ⟨b2, o2 + i, none⟩ = some (.string y) := by rw [hy]; exact cell_later hst.out (hc2 i _ (by unfold TX; rw [List.getElem?_map, hs]; rfl))
      have c3 : wr.cell? ⟨gk, 0 + i, none⟩ = some (.int .i64 (s : Int)) := cell_later hst.out (hc3 i _ (by unfold KR; rw [List.getElem?_map, hs]; rfl))
      rw [Nat.zero_add] at c3
      have hiR : (i : Int) < (R : Int) := by omega
      clear hy hc ha hc2 ha2 hc3 ha3 hs hlen HLR
      go_wp2
      go_quiet (fail)
      go_wp2
      go_roundg (R - (i + 1))
      case measure => omega
      case rel => exact ⟨i + 1, by omega, rfl, by go_num, below_drewN hst.out _⟩
    · obtain rfl : i = R := by omega
      clear hc ha hc2 ha2 hc3 ha3
      go_wp2
      exact ⟨⟨rfl, rfl, ⟨rfl, rfl, rfl, rfl, rfl, rfl, rfl, rfl, rfl, rfl, rfl, rfl, rfl, trivial⟩⟩, hst.out⟩

end Go.Proofs.Qxb6619397a
