/-
  The law, the call.
-/
import Derived.Test.Qxb6619397aFr
import Derived.Test.Qxb6619397aZZ
namespace Go.Proofs.Qxb6619397a
open Go.RowKit
set_option linter.unusedVariables false

/-- What ZZWithoutLocks has answered: no lock. -/
def Same (n m : Nat) (K : List Int) (T : List ByteArray) (x j t : Value) (v19 v20 v21 v22 v24 : Value) (w' : World) : Prop :=
  (kp K n).length = n ∧ ∃ k' c' t' tc', v19 = .slice k' n c' ∧ v20 = .slice t' m tc' ∧ v21 = x ∧ v22 = j ∧ v24 = t ∧ Row w' k' (K.map (Value.int .u8)) ∧ Row w' t' (T.map Value.string)

/-- What ZZWithoutLocks has answered: with a lock. -/
def Less (n m : Nat) (K X I : List Int) (T : List ByteArray) (pos : Nat → Int) (v19 v20 v21 v22 v24 : Value) (w' : World) : Prop :=
  (kp K n).length < n ∧ ∃ zk zt zi za tt tc, v19 = .slice (some ⟨zk, 0, none⟩) (kp K n).length (kp K n).length ∧ v20 = .slice tt (ks (usedB K X n) m).length tc ∧ v21 = .slice (some ⟨zt, 0, none⟩) (kp K n).length (kp K n).length ∧
    v22 = .slice (some ⟨zi, 0, none⟩) (kp K n).length (kp K n).length ∧ v24 = .slice (some ⟨za, 0, none⟩) (kp K n).length (kp K n).length ∧
    Row w' (some ⟨zk, 0, none⟩) (LK K n) ∧ Row w' tt (TX (usedB K X n) T m) ∧ Row w' (some ⟨zt, 0, none⟩) ((kp K n).map (gU (usedB K X n) X)) ∧ Row w' (some ⟨zi, 0, none⟩) (LX K I n) ∧ Row w' (some ⟨za, 0, none⟩) (LP K pos n)

def I12 (l : List (Nat × Value)) (n m : Nat) (K X I : List Int) (T : List ByteArray) (pos : Nat → Int) (items : Int) (x j t : Value) (w : World) (a' : Act) (w' : World) : Prop :=
  ∃ v19 v20 v21 v22 v24, Fr a' (l ++ [(19, v19), (20, v20), (21, v21), (22, v22), (23, .int .i64 items), (24, v24), (25, .bool true)]) ∧ Below w.heap.size w w' ∧ (Same n m K T x j t v19 v20 v21 v22 v24 w' ∨ Less n m K X I T pos v19 v20 v21 v22 v24 w')

theorem AtOK.later {w W : World} {av : Value} {n : Nat} {pos : Nat → Int} (h : AtOK w av n pos) (hb : Below w.heap.size w W) : AtOK W av n pos := by
  rcases h with h | ⟨b, o, c, A, h1, h2, h3, h4⟩
  · exact .inl h
  · exact .inr ⟨b, o, c, A, h1, h2, h3.later hb, h4⟩

set_option maxHeartbeats 4000000 in
set_option maxRecDepth 100000 in
theorem st12 {w0 : World} {ko tq xo io ao : Option Addr} {n kc m mc xc jc an ac : Nat} {items : Int} {K X I : List Int} {T : List ByteArray} {pos : Nat → Int} (a : Act) (w : World) (hb : Below w0.heap.size w0 w) (hF : Fr a [(0, .slice ko n kc), (1, .slice tq m mc), (2, .slice xo n xc), (3, .slice io n jc), (4, .int .i64 items), (5, .slice ao an ac)]) (hlK : K.length = n) (hlX : X.length = n) (hlI : I.length = n) (hlT : T.length = m) (h1 : n ≤ 65536) (h2 : m ≤ 65536) (hnK : ko = none → n = 0 ∧ kc = 0) (hnT : tq = none → m = 0 ∧ mc = 0) (hK : Row w ko (K.map (Value.int .u8))) (hT : Row w tq (T.map Value.string)) (hX : Row w xo (X.map (Value.int .i64))) (hI : Row w io (I.map (Value.int .i64))) (hA : AtOK w (.slice ao an ac) n pos) (hin : ∀ q, q < n → lockB (K.getD q 0) = false → ∃ x : Nat, X.getD q 0 = (x : Int) ∧ x < m)
    (K' : Act → World → Prop) (hK' : ∀ a' w', (I12 [(0, .slice ko n kc), (1, .slice tq m mc), (2, .slice xo n xc), (3, .slice io n jc), (4, .int .i64 items), (5, .slice ao an ac)] n m K X I T pos items (.slice xo n xc) (.slice io n jc) (.slice ao an ac) w) a' w' → K' a' w') : (S (Try.f3.body.getD .skip) 12).wp Try.prog (Exit.then K' (bodyPost Try.prog Try.f3 (Good w0))) a w := by
  obtain ⟨f, rfl, hf⟩ := hF.opened
  have g0 : f 0 = .slice ko n kc := hf (0, .slice ko n kc) (by simp)
  have g1 : f 1 = .slice tq m mc := hf (1, .slice tq m mc) (by simp)
  have g2 : f 2 = .slice xo n xc := hf (2, .slice xo n xc) (by simp)
  have g3 : f 3 = .slice io n jc := hf (3, .slice io n jc) (by simp)
  have g4 : f 4 = .int .i64 items := hf (4, .int .i64 items) (by simp)
  have g5 : f 5 = .slice ao an ac := hf (5, .slice ao an ac) (by simp)
  clear hf hF
  rw [lit]
  simp only [g0, g1, g2, g3, g4, g5]
  clear g0 g1 g2 g3 g4 g5
  conv => arg 2; whnf
  have H8 : Hid (Calls Try.prog 8 #[.slice ko n kc] w fun e w' => RowOut n (K.map (Value.int .u8)) w e w') := toKinds_any ko n kc K w h1 hlK hnK hK
  have H9 : Hid (∀ W, Below w.heap.size w W → Calls Try.prog 9 #[.slice tq m mc] W fun e w' => RowOut m (T.map Value.string) W e w') := fun W hB => toTxns_any tq m mc T W h2 hlT hnT (hT.later hB)
  have H7 : Hid (∀ (W : World) (k' t' : Option Addr) (c' tc' : Nat), Below w.heap.size w W → Row W k' (K.map (Value.int .u8)) → Row W t' (T.map Value.string) → Calls Try.prog 7 #[.slice k' n c', .slice t' m tc', .slice xo n xc, .slice io n jc, .int .i64 items, .slice ao an ac] W fun e w' =>
      ∃ v19 v20 v21 v22 v24, e = .returned (.tuple #[v19, v20, v21, v22, .int .i64 items, v24, .bool true]) ∧ Below W.heap.size W w' ∧ (Same n m K T (.slice xo n xc) (.slice io n jc) (.slice ao an ac) v19 v20 v21 v22 v24 w' ∨ Less n m K X I T pos v19 v20 v21 v22 v24 w')) := by
    intro W k' t' c' tc' hB hKr hTr
    by_cases hall : (kp K n).length = n
    · refine (zz_none n c' k' K t' xo io ao m tc' n xc n jc an ac items W hlK h1 hKr hall).mono ?_
      rintro e w' ⟨rfl, hb'⟩
      exact ⟨_, _, _, _, _, rfl, hb', .inl ⟨hall, k', c', t', tc', rfl, rfl, rfl, rfl, rfl, hKr.later hb', hTr.later hb'⟩⟩
    · have hlt : (kp K n).length < n := by have := kp_le K n; omega
      refine (zz_some n c' m tc' xc jc k' t' xo io K X I T ao an ac items pos W hlK hlX hlI hlT h1 h2 hKr hTr (hX.later hB) (hI.later hB) (hA.later hB) hin hlt).mono ?_
      rintro e w' ⟨zk, zt, zi, za, tt, tc, rfl, r1, r2, r3, r4, r5, hb'⟩
      exact ⟨_, _, _, _, _, rfl, hb', .inr ⟨hlt, zk, zt, zi, za, tt, tc, rfl, rfl, rfl, rfl, rfl, r1, r2, r3, r4, r5⟩⟩
  clear hlK hlX hlI hlT h1 h2 hnK hnT hK hT hX hI hA hin
  go_wp2_with fail
  refine H8.out.mono ?_
  rintro e w1 ⟨k', c', rfl, hKr, hb1⟩
  go_wp2_with fail
  refine (H9.out w1 hb1).mono ?_
  rintro e w2 ⟨t', tc', rfl, hTr, hb2⟩
  have hb12 : Below w.heap.size w w2 := hb1.trans (hb2.mono hb1.size)
  have hKr2 := hKr.later hb2
  clear hKr
  go_wp2_with fail
  refine (H7.out w2 k' t' c' tc' hb12 hKr2 hTr).mono ?_
  rintro e w3 ⟨v19, v20, v21, v22, v24, rfl, hb3, hres⟩
  have hb13 : Below w.heap.size w w3 := hb12.trans (hb3.mono hb12.size)
  have HR : Hid (Same n m K T (.slice xo n xc) (.slice io n jc) (.slice ao an ac) v19 v20 v21 v22 v24 w3 ∨ Less n m K X I T pos v19 v20 v21 v22 v24 w3) := hres
  clear hres H7 H8 H9 hKr2 hTr hb1 hb2 hb12 hb3
  go_wp2
  exact ⟨v19, v20, v21, v22, v24, ⟨rfl, rfl, ⟨rfl, rfl, rfl, rfl, rfl, rfl, rfl, rfl, rfl, rfl, rfl, rfl, rfl, trivial⟩⟩, hb13, HR.out⟩

end Go.Proofs.Qxb6619397a
