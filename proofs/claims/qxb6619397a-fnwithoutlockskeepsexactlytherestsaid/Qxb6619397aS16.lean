/-
  The law, the branch.
-/
import Derived.Test.Qxb6619397aFr
import Derived.Test.Qxb6619397aV2
import Derived.Test.Qxb6619397aV3
import Derived.Test.Qxb6619397aS12
namespace Go.Proofs.Qxb6619397a
open Go.RowKit
set_option linter.unusedVariables false

theorem Fr.eval {a : Act} {l : List (Nat × Value)} (h : Fr a l) (t : Nat) (v : Value) (hm : (t, v) ∈ l) : a.eval (.tmp t) = v := by
  have := h.v.get _ hm
  obtain ⟨hlt, e⟩ := Array.getElem?_eq_some_iff.1 this
  simp only at hlt e
  simp [Act.eval, Array.getD, hlt, e]

theorem Fr.less {a : Act} {l : List (Nat × Value)} (h : Fr a l) {l' : List (Nat × Value)} (hm : ∀ p ∈ l', p ∈ l) : Fr a l' := by
  refine ⟨h.d, h.s, ?_⟩
  have : ∀ l' : List (Nat × Value), (∀ p ∈ l', p ∈ l) → AllAt a.tmps l' := by
    intro l'
    induction l' with
    | nil => intro _; trivial
    | cons q l' ih => intro hq; exact ⟨h.v.get q (hq q (by simp)), ih (fun p hp => hq p (by simp [hp]))⟩
  exact this l' hm

theorem stepT {P : Program} {Q : Exit → Act → World → Prop} {a : Act} {w : World} (c : Code) (j : Nat) (h : tailN j c = .seq (headOf (tailN j c)) (tailN (j + 1) c)) (I : Act → World → Prop)
    (h1 : ∀ K' : Act → World → Prop, (∀ a' w', I a' w' → K' a' w') → (headOf (tailN j c)).wp P (Exit.then K' Q) a w) (h2 : ∀ a' w', I a' w' → (tailN (j + 1) c).wp P Q a' w') : (tailN j c).wp P Q a w := by
  rw [h]
  exact wp_seq_at I h1 h2

set_option maxHeartbeats 4000000 in
set_option maxRecDepth 100000 in
theorem st44 {w0 : World} {ko tq xo io ao : Option Addr} {n kc m mc xc jc an ac : Nat} {items : Int} {v19 v20 v21 v22 v24 : Value} {K : List Int} {b : Bool} {KF : Act → World → Prop} (a : Act) (w : World) (hb : Below w0.heap.size w0 w) (hF : Fr a [(0, .slice ko n kc), (1, .slice tq m mc), (2, .slice xo n xc), (3, .slice io n jc), (4, .int .i64 items), (5, .slice ao an ac), (19, v19), (20, v20), (21, v21), (22, v22), (24, v24), (26, .int .i64 ((kp K n).length : Int))]) (hbq : (((kp K n).length : Int) == (n : Int)) = b)
    (K' : Act → World → Prop) (hK' : ∀ a' w', (IF [(0, .slice ko n kc), (1, .slice tq m mc), (2, .slice xo n xc), (3, .slice io n jc), (4, .int .i64 items), (5, .slice ao an ac), (19, v19), (20, v20), (21, v21), (22, v22), (24, v24), (26, .int .i64 ((kp K n).length : Int)), (223, .bool b)] w) a' w' → K' a' w') : (headOf (S (Try.f3.body.getD .skip) 16)).wp Try.prog (Exit.then K' (Exit.then KF (bodyPost Try.prog Try.f3 (Good w0)))) a w := by
  obtain ⟨f, rfl, hf⟩ := hF.opened
  have g0 : f 0 = .slice ko n kc := hf (0, .slice ko n kc) (by simp)
  have g1 : f 1 = .slice tq m mc := hf (1, .slice tq m mc) (by simp)
  have g2 : f 2 = .slice xo n xc := hf (2, .slice xo n xc) (by simp)
  have g3 : f 3 = .slice io n jc := hf (3, .slice io n jc) (by simp)
  have g4 : f 4 = .int .i64 items := hf (4, .int .i64 items) (by simp)
  have g5 : f 5 = .slice ao an ac := hf (5, .slice ao an ac) (by simp)
  have g6 : f 19 = v19 := hf (19, v19) (by simp)
  have g7 : f 20 = v20 := hf (20, v20) (by simp)
  have g8 : f 21 = v21 := hf (21, v21) (by simp)
  have g9 : f 22 = v22 := hf (22, v22) (by simp)
  have g10 : f 24 = v24 := hf (24, v24) (by simp)
  have g11 : f 26 = .int .i64 ((kp K n).length : Int) := hf (26, .int .i64 ((kp K n).length : Int)) (by simp)
  clear hf hF
  rw [lit]
  simp only [g0, g1, g2, g3, g4, g5, g6, g7, g8, g9, g10, g11]
  clear g0 g1 g2 g3 g4 g5 g6 g7 g8 g9 g10 g11
  conv => arg 2; whnf
  go_wp2
  exact ⟨⟨rfl, rfl, ⟨rfl, rfl, rfl, rfl, rfl, rfl, rfl, rfl, rfl, rfl, rfl, rfl, rfl, trivial⟩⟩, rfl⟩

def I16 (l : List (Nat × Value)) (n m : Nat) (K X I : List Int) (T : List ByteArray) (pos : Nat → Int) (v19 v20 v21 v22 v24 : Value) (w : World) (a' : Act) (w' : World) : Prop :=
  Fr a' l ∧ w' = w ∧ Less n m K X I T pos v19 v20 v21 v22 v24 w

set_option maxRecDepth 100000 in
theorem st16 {w0 : World} {ko tq xo io ao : Option Addr} {n kc m mc xc jc an ac : Nat} {items : Int} {v19 v20 v21 v22 v24 : Value} {K X I A : List Int} {T : List ByteArray} {pos : Nat → Int} (a : Act) (w : World) (hb : Below w0.heap.size w0 w) (hF : Fr a [(0, .slice ko n kc), (1, .slice tq m mc), (2, .slice xo n xc), (3, .slice io n jc), (4, .int .i64 items), (5, .slice ao an ac), (19, v19), (20, v20), (21, v21), (22, v22), (24, v24), (26, .int .i64 ((kp K n).length : Int))])
    (hlK : K.length = n) (hlX : X.length = n) (hlI : I.length = n) (hlA : A.length = an) (hlT : T.length = m) (h1 : n ≤ 65536) (h2 : m ≤ 65536) (h5 : an ≤ 65536)
    (hK : Row w ko (K.map (Value.int .u8))) (hT : Row w tq (T.map Value.string)) (hX : Row w xo (X.map (Value.int .i64))) (hI : Row w io (I.map (Value.int .i64))) (hA : Row w ao (A.map (Value.int .i64)))
    (hres : Same n m K T (.slice xo n xc) (.slice io n jc) (.slice ao an ac) v19 v20 v21 v22 v24 w ∨ Less n m K X I T pos v19 v20 v21 v22 v24 w)
    (K' : Act → World → Prop) (hK' : ∀ a' w', (I16 [(0, .slice ko n kc), (1, .slice tq m mc), (2, .slice xo n xc), (3, .slice io n jc), (4, .int .i64 items), (5, .slice ao an ac), (19, v19), (20, v20), (21, v21), (22, v22), (24, v24), (26, .int .i64 ((kp K n).length : Int))] n m K X I T pos v19 v20 v21 v22 v24 w) a' w' → K' a' w') : (S (Try.f3.body.getD .skip) 16).wp Try.prog (Exit.then K' (bodyPost Try.prog Try.f3 (Good w0))) a w := by
  have e16 : S (Try.f3.body.getD .skip) 16 = Code.seq (headOf (S (Try.f3.body.getD .skip) 16)) (Code.cond (.tmp 223) (thenOf (S (Try.f3.body.getD .skip) 16)) .skip) := rfl
  rw [e16]
  rcases hres with hS | hL
  · obtain ⟨hall, k', c', t', tc', rfl, rfl, rfl, rfl, rfl, hK2, hT2⟩ := hS
    refine wp_seq_at _ (fun K1 hK1 => st44 (b := true) a w hb hF (by simp [hall]) K1 hK1) ?_
    rintro a1 w' ⟨hF1, hw⟩
    rw [hw]
    refine wp_cond_true (hF1.eval 223 (.bool true) (by simp)) ?_
    have hG : Fr a1 [(0, .slice ko n kc), (1, .slice tq m mc), (2, .slice xo n xc), (3, .slice io n jc), (4, .int .i64 items), (5, .slice ao an ac), (19, .slice k' n c'), (20, .slice t' m tc'), (21, .slice xo n xc), (22, .slice io n jc), (24, .slice ao an ac)] := hF1.less (fun p hp => List.mem_append_left [(26, Value.int .i64 ((kp K n).length : Int)), (223, Value.bool true)] hp)
    show (tailN 0 (thenOf (S (Try.f3.body.getD .skip) 16))).wp _ _ _ _
    refine stepT (thenOf (S (Try.f3.body.getD .skip) 16)) 0 rfl _ (fun K1 hK1 => sv0 a1 w hb hG K1 hK1) ?_
    rintro a2 w' ⟨hF2, hw⟩
    rw [hw]
    refine stepT (thenOf (S (Try.f3.body.getD .skip) 16)) 1 rfl _ (fun K1 hK1 => sv1 a2 w hb hF2 K1 hK1) ?_
    rintro a3 w' ⟨hF3, hw⟩
    rw [hw]
    refine stepT (thenOf (S (Try.f3.body.getD .skip) 16)) 2 rfl _ (fun K1 hK1 => sv2 a3 w hb hF3 hlK hlX hlI h1 hK hK2 hX hI K1 hK1) ?_
    rintro a4 w4 ⟨hF4, hb4⟩
    have hb4' := hb.trans (hb4.mono hb.size)
    refine stepT (thenOf (S (Try.f3.body.getD .skip) 16)) 3 rfl _ (fun K1 hK1 => sv3 a4 w4 hb4' hF4 hlA h5 (hA.later hb4) K1 hK1) ?_
    rintro a5 w5 ⟨hF5, hb5⟩
    have hb5' := hb4'.trans (hb5.mono hb4'.size)
    refine stepT (thenOf (S (Try.f3.body.getD .skip) 16)) 4 rfl _ (fun K1 hK1 => sv4 a5 w5 hb5' hF5 hlT h2 ((hT.later hb4).later hb5) ((hT2.later hb4).later hb5) K1 hK1) ?_
    rintro a6 w6 ⟨hF6, hb6⟩
    exact sv5 a6 w6 (hb5'.trans (hb6.mono hb5'.size)) (hF6.less (by intro p hp; cases hp))
  · have hlt := hL.1
    refine wp_seq_at _ (fun K1 hK1 => st44 (b := false) a w hb hF (by simp; omega) K1 hK1) ?_
    rintro a1 w' ⟨hF1, hw⟩
    rw [hw]
    refine wp_cond_false (hF1.eval 223 (.bool false) (by simp)) (wp_skip ?_)
    exact hK' a1 w ⟨hF1.less (by intro p hp; exact List.mem_append_left [(223, Value.bool false)] hp), rfl, hL⟩

end Go.Proofs.Qxb6619397a
