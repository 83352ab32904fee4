/-
  The law, whole.
-/
import Derived.Test.Qxb6619397aFr
import Derived.Test.Qxb6619397aS0
import Derived.Test.Qxb6619397aS2
import Derived.Test.Qxb6619397aS3
import Derived.Test.Qxb6619397aS4
import Derived.Test.Qxb6619397aS5
import Derived.Test.Qxb6619397aS6
import Derived.Test.Qxb6619397aS8
import Derived.Test.Qxb6619397aS9
import Derived.Test.Qxb6619397aS11
import Derived.Test.Qxb6619397aS12
import Derived.Test.Qxb6619397aS13
import Derived.Test.Qxb6619397aS16
import Derived.Test.Qxb6619397aS17
import Derived.Test.Qxb6619397aS19
import Derived.Test.Qxb6619397aS21
import Derived.Test.Qxb6619397aS22
import Derived.Test.Qxb6619397aS25
namespace Go.Proofs.Qxb6619397a
open Go.RowKit
set_option linter.unusedVariables false

set_option maxRecDepth 100000 in
set_option maxHeartbeats 4000000 in
theorem keeps_walk (ko tq xo io ao : Option Addr) (n kc m mc xn xc jn jc an ac : Nat) (K X I A : List Int) (T : List ByteArray) (items : Int) (w : World)
    (hlK : K.length = n) (hlT : T.length = m) (hlX : X.length = xn) (hlI : I.length = jn) (hlA : A.length = an)
    (hK : Row w ko (K.map (Value.int .u8))) (hT : Row w tq (T.map Value.string)) (hX : Row w xo (X.map (Value.int .i64))) (hI : Row w io (I.map (Value.int .i64))) (hA : Row w ao (A.map (Value.int .i64)))
    (hnK : ko = none → n = 0 ∧ kc = 0) (hnT : tq = none → m = 0 ∧ mc = 0) (hnX : xo = none → xn = 0 ∧ xc = 0) (hnI : io = none → jn = 0 ∧ jc = 0) (hnA : ao = none → an = 0 ∧ ac = 0)
    (b1 : n ≤ maxLen) (b2 : m ≤ maxLen) (b3 : xn ≤ maxLen) (b4 : jn ≤ maxLen) (b5 : an ≤ maxLen) :
    Calls Try.prog 3 #[.slice ko n kc, .slice tq m mc, .slice xo xn xc, .slice io jn jc, .int .i64 items, .slice ao an ac] w fun e w' => e = .returned (.bool true) ∧ Below w.heap.size w w' := by
  refine calls_of_wp (c := (Try.f3.body.getD .skip)) Try.func3 rfl ?_
  have hF0 : Fr { tmps := #[.slice ko n kc, .slice tq m mc, .slice xo xn xc, .slice io jn jc, .int .i64 items, .slice ao an ac] ++ Array.replicate (Try.f3.ntmps - (#[.slice ko n kc, .slice tq m mc, .slice xo xn xc, .slice io jn jc, .int .i64 items, .slice ao an ac] : Array Value).size) undef, defers := [] } [(0, .slice ko n kc), (1, .slice tq m mc), (2, .slice xo xn xc), (3, .slice io jn jc), (4, .int .i64 items), (5, .slice ao an ac)] :=
    ⟨rfl, by simp [Try.ntmps3], by simp [AllAt]⟩
  have hb0 : Below w.heap.size w w := Below.refl _ _
  show (tailN 0 (Try.f3.body.getD .skip)).wp Try.prog (bodyPost Try.prog Try.f3 (Good w)) _ w
  refine stepT (Try.f3.body.getD .skip) 0 rfl _ (fun K' hK' => st0 _ w hb0 hF0 K' hK') ?_
  rintro a1 w' ⟨hF1, hw⟩
  rw [hw]
  clear hF0 hw w'
  refine stepT (Try.f3.body.getD .skip) 1 rfl _ (fun K' hK' => st1 _ w hb0 hF1 hlT hT b1 b2 b3 b4 b5 K' hK') ?_
  rintro a2 w' ⟨hF2, hw⟩
  rw [hw]
  clear hF1 hw w' b1 b2 b3 b4 b5
  refine stepT (Try.f3.body.getD .skip) 2 rfl _ (fun K' hK' => st2 w ko tq xo io ao n kc m mc xn xc jn jc an ac items _ w hb0 hF2 K' hK') ?_
  rintro a3 w' ⟨hF3, hw, h1, h2, h3, h4, h5⟩
  rw [hw]
  clear hF2 hw w'
  refine stepT (Try.f3.body.getD .skip) 3 rfl _ (fun K' hK' => st3 _ w hb0 hF3 hlX h3 hnX hX K' hK') ?_
  rintro a4 w1 ⟨xo', xc', hF4, hXo, hX1, hb1⟩
  have hK1 := hK.later hb1
  have hT1 := hT.later hb1
  have hI1 := hI.later hb1
  have hA1 := hA.later hb1
  clear hK hT hX hI hA hnX hF3 hb0
  refine stepT (Try.f3.body.getD .skip) 4 rfl _ (fun K' hK' => st4 _ w1 hb1 hF4 hlI h4 hnI hI1 K' hK') ?_
  rintro a5 w2 ⟨io', jc', hF5, hIo, hI2, hb12⟩
  have hb2 := hb1.trans (hb12.mono hb1.size)
  have hK2 := hK1.later hb12
  have hT2 := hT1.later hb12
  have hX2 := hX1.later hb12
  have hA2 := hA1.later hb12
  clear hK1 hT1 hX1 hI1 hA1 hnI hF4 hb1 hb12
  refine stepT (Try.f3.body.getD .skip) 5 rfl _ (fun K' hK' => st5 _ w2 hb2 hF5 hlA h5 hnA hA2 K' hK') ?_
  rintro a6 w3 ⟨ao', ac', hF6, hAo, hA3, hb23⟩
  have hb3 := hb2.trans (hb23.mono hb2.size)
  have hK3 := hK2.later hb23
  have hT3 := hT2.later hb23
  have hX3 := hX2.later hb23
  have hI3 := hI2.later hb23
  clear hK2 hT2 hX2 hI2 hA2 hnA hF5 hb2 hb23
  refine stepT (Try.f3.body.getD .skip) 6 rfl _ (fun K' hK' => st6 _ w3 hb3 hF6 h1 h2 h3 h4 h5 K' hK') ?_
  rintro a7 w' ⟨tot, hF7, hw⟩
  rw [hw]
  clear hF6 hw w'
  refine stepT (Try.f3.body.getD .skip) 7 rfl _ (fun K' hK' => st7 _ w3 hb3 hF7 K' hK') ?_
  rintro a8 w' ⟨hF8, hw⟩
  rw [hw]
  clear hF7 hw w'
  refine stepT (Try.f3.body.getD .skip) 8 rfl _ (fun K' hK' => st8 _ w3 hb3 hF8 hlT h2 hT3 K' hK') ?_
  rintro a9 w' ⟨hF9, hw⟩
  rw [hw]
  clear hF8 hw w'
  refine stepT (Try.f3.body.getD .skip) 9 rfl _ (fun K' hK' => st9 _ w3 hb3 hF9 h1 h3 h4 K' hK') ?_
  rintro a10 w' ⟨hF10, hw, e1, e2⟩
  rw [hw]
  clear hF9 hw w'
  obtain rfl : n = xn := e1.symm
  obtain rfl : n = jn := e2.symm
  clear e1 e2 h3 h4
  refine stepT (Try.f3.body.getD .skip) 10 rfl _ (fun K' hK' => st10 _ w3 hb3 hF10 h1 h5 K' hK') ?_
  rintro a11 w' ⟨hF11, hw, hao⟩
  rw [hw]
  clear hF10 hw w'
  obtain ⟨pos, hAt⟩ : ∃ pos, AtOK w3 (.slice ao' an ac') n pos := by
    rcases hAo with ⟨rfl, rfl, rfl⟩ | ⟨gg, rfl⟩
    · exact ⟨_, .inl ⟨rfl, rfl⟩⟩
    · rcases hao with h | h
      · cases h
      · obtain rfl : n = an := h.symm
        exact ⟨_, .inr ⟨gg, 0, ac', A, rfl, hlA, hA3, rfl⟩⟩
  clear hao
  refine stepT (Try.f3.body.getD .skip) 11 rfl _ (fun K' hK' => st11 _ w3 hb3 hF11 hlK hlX h1 h2 hK3 hX3 K' hK') ?_
  rintro a12 w' ⟨hF12, hw, hin⟩
  rw [hw]
  clear hF11 hw w'
  refine stepT (Try.f3.body.getD .skip) 12 rfl _ (fun K' hK' => st12 _ w3 hb3 hF12 hlK hlX hlI hlT h1 h2 hnK hnT hK3 hT3 hX3 hI3 hAt hin K' hK') ?_
  rintro a13 w4 ⟨v19, v20, v21, v22, v24, hF13, hb34, hres⟩
  have hb4 := hb3.trans (hb34.mono hb3.size)
  have hK4 := hK3.later hb34
  have hT4 := hT3.later hb34
  have hX4 := hX3.later hb34
  have hI4 := hI3.later hb34
  have hA4 := hA3.later hb34
  have hAt4 := hAt.later hb34
  clear hK3 hT3 hX3 hI3 hA3 hAt hnK hnT hF12 hb3 hb34
  refine stepT (Try.f3.body.getD .skip) 13 rfl _ (fun K' hK' => st13 _ w4 hb4 hF13 K' hK') ?_
  rintro a14 w' ⟨hF14, hw⟩
  rw [hw]
  clear hF13 hw w'
  refine stepT (Try.f3.body.getD .skip) 14 rfl _ (fun K' hK' => st14 _ w4 hb4 hF14 K' hK') ?_
  rintro a15 w' ⟨hF15, hw⟩
  rw [hw]
  clear hF14 hw w'
  refine stepT (Try.f3.body.getD .skip) 15 rfl _ (fun K' hK' => st15 _ w4 hb4 hF15 hlK h1 hK4 K' hK') ?_
  rintro a16 w' ⟨hF16, hw⟩
  rw [hw]
  clear hF15 hw w'
  refine stepT (Try.f3.body.getD .skip) 16 rfl _ (fun K' hK' => st16 _ w4 hb4 hF16 hlK hlX hlI hlA hlT h1 h2 h5 hK4 hT4 hX4 hI4 hA4 hres K' hK') ?_
  rintro a17 w' ⟨hF17, hw, hless⟩
  rw [hw]
  clear hF16 hw w' hres
  obtain ⟨hlt, zk, zt, zi, za, tt, tc, rfl, rfl, rfl, rfl, rfl, rk, rt, rx, ri, ra⟩ := hless
  refine stepT (Try.f3.body.getD .skip) 17 rfl _ (fun K' hK' => st17 (K := K) (X := X) _ w4 hb4 hF17 h2 K' hK') ?_
  rintro a18 w5 ⟨hF18, hH5, hb45⟩
  have hb5 := hb4.trans (hb45.mono hb4.size)
  clear hF17
  refine stepT (Try.f3.body.getD .skip) 18 rfl _ (fun K' hK' => st18 (ws := w4) _ w5 hb5 hF18 hlK hlX h1 h2 hK4 hX4 hin (Nat.le_refl _) hH5 hb45 K' hK') ?_
  rintro a19 w6 ⟨hF19, hH6, hb46⟩
  have hb6 := hb4.trans (hb46.mono hb4.size)
  clear hF18 hH5 hb45 hb5
  refine stepT (Try.f3.body.getD .skip) 19 rfl _ (fun K' hK' => st19 (ws := w4) _ w6 hb6 hF19 h2 hH6 hb46 K' hK') ?_
  rintro a20 w7 ⟨hF20, hH7, hR7, hb47⟩
  have hb7 := hb4.trans (hb47.mono hb4.size)
  have hgk : w4.heap.size ≤ w6.heap.size := hb46.size
  have hgne : w4.heap.size ≠ w6.heap.size := Nat.ne_of_lt hH6.lt
  clear hF19 hH6 hb46 hb6
  refine stepT (Try.f3.body.getD .skip) 20 rfl _ (fun K' hK' => st20 (K := K) (X := X) (ws := w4) _ w7 hb7 hF20 h2 hgk hgne hH7 hR7 hb47 K' hK') ?_
  rintro a21 w8 ⟨hF21, hKR, hb48⟩
  have hb8 := hb4.trans (hb48.mono hb4.size)
  clear hF20 hH7 hR7 hb47 hb7 hgk hgne
  refine stepT (Try.f3.body.getD .skip) 21 rfl _ (fun K' hK' => st21 _ w8 hb8 hF21 K' hK') ?_
  rintro a22 w' ⟨hF22, hw⟩
  rw [hw]
  clear hF21 hw w'
  refine stepT (Try.f3.body.getD .skip) 22 rfl _ (fun K' hK' => st22 _ w8 hb8 hF22 hlT h2 rfl (hT4.later hb48) (rt.later hb48) hKR K' hK') ?_
  rintro a23 w9 ⟨hF23, hb89⟩
  have hb9 := hb8.trans (hb89.mono hb8.size)
  have hb49 := hb48.trans (hb89.mono hb48.size)
  have hKR9 := hKR.later hb89
  clear hF22 hKR hb8 hb48 hb89
  refine stepT (Try.f3.body.getD .skip) 23 rfl _ (fun K' hK' => st23 _ w9 hb9 hF23 K' hK') ?_
  rintro a24 w' ⟨hF24, hw⟩
  rw [hw]
  clear hF23 hw w'
  refine stepT (Try.f3.body.getD .skip) 24 rfl _ (fun K' hK' => st24 _ w9 hb9 hF24 K' hK') ?_
  rintro a25 w' ⟨hF25, hw⟩
  rw [hw]
  clear hF24 hw w'
  refine stepT (Try.f3.body.getD .skip) 25 rfl _ (fun K' hK' => st25 _ w9 hb9 hF25 hlK hlX hlI h1 h2 rfl rfl hin (hK4.later hb49) (hX4.later hb49) (hI4.later hb49) (hAt4.later hb49) (rk.later hb49) (rx.later hb49) (ri.later hb49) (ra.later hb49) hKR9 K' hK') ?_
  rintro a26 w10 ⟨hF26, hb910⟩
  exact st26 a26 w10 (hb9.trans (hb910.mono hb9.size)) hF26

end Go.Proofs.Qxb6619397a
