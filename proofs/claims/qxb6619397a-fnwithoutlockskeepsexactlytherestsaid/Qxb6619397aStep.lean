/-
  Laws of our own for one append within the capacity, the world behind it written out; the state that withoutLocks builds.
-/
import Derived.Test.Qxb6619397aPlain
import Derived.Deep.RegionLaw
import Derived.Deep.DeepCutAuto
namespace Go.Proofs.Qxb6619397a
open Go.RowKit
set_option linter.unusedVariables false

theorem mk_rows (t e : TypeId) (z : Value) (bytes L l : Nat) (ht : Try.prog.underlying t = some (.slice e)) (hi : (Try.prog.info? e).map (fun i => (i.zero, i.size, i.bytes)) = some (some z, 1, bytes)) (hz : z.cells = #[z]) (hb : bytes ≤ 16) (hL : L ≤ 65536) (hl : l ≤ L) :
    ∃ Z : List Value, Z = List.replicate L z ∧ ∀ W, (Instr.makeSlice t (.int .i64 (l : Int)) (.int .i64 (L : Int))).run Try.prog W = .ok (.slice (some ⟨W.heap.size, 0, none⟩) l L) (W.alloc (.cells Z.toArray e)) := by
  obtain ⟨i0, hi0, hz0, hz1, hz2⟩ := info_parts hi
  refine ⟨_, rfl, fun W => ?_⟩
  have hmul : bytes * L ≤ 16 * 65536 := Nat.mul_le_mul hb hL
  have hmul2 : (i0.bytes : Int) * (L : Int) ≤ 281474976710656 := by
    rw [hz2]
    have e2 : ((bytes : Int) * (L : Int)) = ((bytes * L : Nat) : Int) := by push_cast; rfl
    rw [e2]
    omega
  have := run_make (P := Try.prog) W t e i0 z ht hi0 hz0 .i64 .i64 (l : Int) (L : Int) (by omega) (by omega) hmul2 (by omega)
  rw [this, hz, hz1]
  have e1 : madeCells #[z] ((L : Int).toNat * 1) = (List.replicate L z).toArray := by
    apply Array.toList_inj.1
    rw [Nat.mul_one, Int.toNat_natCast, toList_madeCells_one]
  rw [e1, Int.toNat_natCast, Int.toNat_natCast]

section
variable {P : Program} {ops : Array Oper} {o : Oper} {a : Act} {w : World}

theorem run_append_one (t ty e : TypeId) (i : TypeInfo) (h1 : P.underlying t = some (.slice e)) (h2 : P.info? e = some i) (h4 : i.size = 1)
    (b n cap : Nat) (ad : Addr) (c : Nat) (v : Value) (hc : w.cell? ad = some v) (hv : v.oneCell' = true) (hroom : n + 1 ≤ cap)
    (hsome : (w.cell? ⟨b, n, none⟩).isSome = true) (hfz : w.frozen? ⟨b, n, none⟩ = false) :
    (Builtin.append_ #[t, t] ty #[.slice (some ⟨b, 0, none⟩) n cap, .slice (some ad) 1 c]).run P w = .ok (.slice (some ⟨b, 0, none⟩) (n + 1) cap) (w.setCell ⟨b, n, none⟩ v) := by
  have hrun := run_append_room_cells (P := P) w t ty e i h1 h2 b 0 n cap ad 1 c [v] (by simp [h4])
    (fun j u hj => by
      match j, hj with
      | 0, hj => simp at hj; subst hj; simpa [Addr.add] using hc) (fun u hu => by simp at hu; subst hu; exact hv) hroom
    (fun j hj => by simp at hj; subst hj; simpa [h4] using hsome) (fun j hj => by simp at hj; subst hj; simpa [h4] using hfz)
  rw [hrun, h4]
  simp [World.setCells]

theorem step_append_one {K : Act → World → Prop} {Q : Exit → Act → World → Prop} {E : Prop}
    (hg : o.guard = none) (s x : Operand) (t : TypeId) (hop : o.op = Op.call { callee := Callee.builtin Builtin.append, args := #[s, x], argTypes := #[t, t] })
    (e : TypeId) (i : TypeInfo) (h1 : P.underlying t = some (.slice e)) (h2 : P.info? e = some i) (h4 : i.size = 1)
    (b n cap : Nat) (hs : a.eval s = .slice (some ⟨b, 0, none⟩) n cap) (ad : Addr) (c : Nat) (v : Value) (hx : a.eval x = .slice (some ad) 1 c)
    (hc : w.cell? ad = some v) (hv : v.oneCell' = true) (hroom : n + 1 ≤ cap) (hsome : (w.cell? ⟨b, n, none⟩).isSome = true) (hfz : w.frozen? ⟨b, n, none⟩ = false)
    (hK : K (a.put o.dst (.slice (some ⟨b, 0, none⟩) (n + 1) cap)) (w.setCell ⟨b, n, none⟩ v)) :
    if Region.wanted o (yielded ops a.tmps) = true then Oper.wp P o a w K Q else E := by
  have hw : Region.wanted o (yielded ops a.tmps) = true := by simp [Region.wanted, hg]
  rw [if_pos hw]
  have hrun := run_append_one (P := P) t o.type e i h1 h2 h4 b n cap ad c v hc hv hroom hsome hfz
  unfold Oper.wp
  simp [execOp, hop, resolve, invoke, builtin, hs, hx, hrun, Result.andThen]
  exact hK

theorem wpList_append_one {rest : List Oper} {Q : Exit → Act → World → Prop}
    (hg : o.guard = none) (s x : Operand) (t : TypeId) (hop : o.op = Op.call { callee := Callee.builtin Builtin.append, args := #[s, x], argTypes := #[t, t] })
    (e : TypeId) (i : TypeInfo) (h1 : P.underlying t = some (.slice e)) (h2 : P.info? e = some i) (h4 : i.size = 1)
    (b n cap : Nat) (hs : a.eval s = .slice (some ⟨b, 0, none⟩) n cap) (ad : Addr) (c : Nat) (v : Value) (hx : a.eval x = .slice (some ad) 1 c)
    (hc : w.cell? ad = some v) (hv : v.oneCell' = true) (hroom : n + 1 ≤ cap) (hsome : (w.cell? ⟨b, n, none⟩).isSome = true) (hfz : w.frozen? ⟨b, n, none⟩ = false)
    (hK : wpList P ops Q rest (a.put o.dst (.slice (some ⟨b, 0, none⟩) (n + 1) cap)) (w.setCell ⟨b, n, none⟩ v)) : wpList P ops Q (o :: rest) a w := by
  refine wpList_plain hg fun K hK' => ?_
  have hrun := run_append_one (P := P) t o.type e i h1 h2 h4 b n cap ad c v hc hv hroom hsome hfz
  unfold Oper.wp
  simp [execOp, hop, resolve, invoke, builtin, hs, hx, hrun, Result.andThen]
  exact hK' _ _ hK
end

theorem wp_call_13 {o : Oper} {a : Act} {w : World} {K : Act → World → Prop} {Q : Exit → Act → World → Prop}
    (x y : Operand) (tys : Array TypeId) (hop : o.op = Op.call { callee := Callee.value (Operand.func 13), args := #[x, y], argTypes := tys })
    (vx vy v : Value) (hx : a.eval x = vx) (hy : a.eval y = vy) (hcall : Calls Try.prog 13 #[vx, vy] w fun e w' => e = .returned v ∧ w' = w)
    (hK : K (a.put o.dst v) w) : Oper.wp Try.prog o a w K Q := by
  have hf : (callFunc 13 #[vx, vy]).run Try.prog w = .ok (.enter 13 #[vx, vy]) w := by
    have n1 : ¬ Try.f13.name = "runtime.NumGoroutine" := of_decide_eq_false (by kernel_rfl)
    have n3 : Try.f13.body.isSome = true := by kernel_rfl
    have n2 : ¬ Try.f13.body = none := fun h => by rw [h] at n3; cases n3
    simp [callFunc, go_sem, Try.func13, n1, n2]
  have hrun : (execOp a.eval o).run Try.prog w = .ok (.enter 13 #[vx, vy]) w := by
    have hev : a.eval (.func 13) = .func (Fn.func 13) #[] #[] := rfl
    simp [execOp, hop, resolve, invoke, hx, hy, hev, Deferred.ofValue, hf]
  unfold Oper.wp
  rw [hrun, Oper.upon_enter]
  refine hcall.mono ?_
  rintro e w' ⟨rfl, rfl⟩
  exact hK

/-- A row with room for L, its first cells c. -/
def RowL (w : World) (g : Nat) (t : TypeId) (L : Nat) (c : List Value) : Prop := ∃ A, H w g A t ∧ A.length = L ∧ A.take c.length = c

theorem RowL.lt {w : World} {g L : Nat} {t : TypeId} {c : List Value} (h : RowL w g t L c) : g < w.heap.size := by obtain ⟨A, hA, _⟩ := h; exact hA.lt
theorem RowL.room {w : World} {g L : Nat} {t : TypeId} {c : List Value} (h : RowL w g t L c) (hl : c.length < L) : (w.cell? ⟨g, c.length, none⟩).isSome = true := by
  obtain ⟨A, hA, hAl, _⟩ := h
  rw [hA.cell, List.getElem?_eq_getElem (by omega)]; rfl
theorem RowL.frozen {w : World} {g L : Nat} {t : TypeId} {c : List Value} (h : RowL w g t L c) (i : Nat) : w.frozen? ⟨g, i, none⟩ = false := by obtain ⟨A, hA, _⟩ := h; exact hA.frozen i
theorem RowL.push {w : World} {g L : Nat} {t : TypeId} {c : List Value} (h : RowL w g t L c) (hl : c.length < L) (v : Value) : RowL (w.setCell ⟨g, c.length, none⟩ v) g t L (c ++ [v]) := by
  obtain ⟨A, hA, hAl, hAt⟩ := h
  refine ⟨_, hA.set c.length v, by simpa using hAl, ?_⟩
  rw [List.length_append, List.length_singleton, take_set A _ _ (by omega), hAt]
theorem RowL.other {w : World} {g g' L : Nat} {t : TypeId} {c : List Value} (h : RowL w g t L c) (hne : g ≠ g') (i : Nat) (v : Value) : RowL (w.setCell ⟨g', i, none⟩ v) g t L c := by
  obtain ⟨A, hA, hAl, hAt⟩ := h
  exact ⟨A, hA.other hne i v, hAl, hAt⟩
theorem RowL.alloc {w : World} {g L : Nat} {t : TypeId} {c : List Value} (h : RowL w g t L c) (o : Obj) : RowL (w.alloc o) g t L c := by
  obtain ⟨A, hA, hAl, hAt⟩ := h
  exact ⟨A, hA.alloc o, hAl, hAt⟩
theorem RowL.drew {w : World} {g L : Nat} {t : TypeId} {c : List Value} (h : RowL w g t L c) : RowL w.drew g t L c := h
theorem RowL.row {w : World} {g L : Nat} {t : TypeId} {c : List Value} (h : RowL w g t L c) : Row w (some ⟨g, 0, none⟩) c := by
  obtain ⟨A, hA, hAl, hAt⟩ := h
  exact Row.ofH hA hAt
theorem RowL.later {w w' : World} {g L B : Nat} {t : TypeId} {c : List Value} (h : RowL w g t L c) (hb : Below B w w') (hg : g < B) : RowL w' g t L c := by
  obtain ⟨A, hA, hAl, hAt⟩ := h
  exact ⟨A, hA.later hb hg, hAl, hAt⟩

/-- The fields of the numbering that is built. -/
def fieldsV (gk gt gi ga L : Nat) (tv : Value) (items : Int) (jk jt ji ja : Nat) : List Value :=
  [.slice (some ⟨gk, 0, none⟩) jk L, tv, .slice (some ⟨gt, 0, none⟩) jt L, .slice (some ⟨gi, 0, none⟩) ji L, .int .i64 items, .slice (some ⟨ga, 0, none⟩) ja L]

/-- The blocks are five. -/
structure Five (B gp gk gt gi ga : Nat) : Prop where
  pk : gp ≠ gk
  pt : gp ≠ gt
  pi : gp ≠ gi
  pa : gp ≠ ga
  kt : gk ≠ gt
  ki : gk ≠ gi
  ka : gk ≠ ga
  ti : gt ≠ gi
  ta : gt ≠ ga
  ia : gi ≠ ga
  bp : B ≤ gp
  bk : B ≤ gk
  bt : B ≤ gt
  bi : B ≤ gi
  ba : B ≤ ga

/-- The state behind some rounds: the four rows hold ck, ct, ci, ca. -/
structure St (B : Nat) (w0 : World) (L : Nat) (items : Int) (gp gk gt gi ga : Nat) (tv : Value) (ck ct ci ca : List Value) (w : World) : Prop where
  p : H w gp (fieldsV gk gt gi ga L tv items ck.length ct.length ci.length ca.length) 39
  k : RowL w gk 33 L ck
  t : RowL w gt 3 L ct
  i : RowL w gi 3 L ci
  a : RowL w ga 3 L ca
  bel : Below B w0 w

section
variable {B L gp gk gt gi ga : Nat} {w0 w : World} {items : Int} {tv : Value} {ck ct ci ca : List Value}

theorem St.alloc (h : St B w0 L items gp gk gt gi ga tv ck ct ci ca w) (hB : B ≤ w.heap.size) (o : Obj) : St B w0 L items gp gk gt gi ga tv ck ct ci ca (w.alloc o) :=
  ⟨h.p.alloc o, h.k.alloc o, h.t.alloc o, h.i.alloc o, h.a.alloc o, h.bel.alloc hB o⟩
theorem St.drew (h : St B w0 L items gp gk gt gi ga tv ck ct ci ca w) : St B w0 L items gp gk gt gi ga tv ck ct ci ca w.drew := ⟨h.p, h.k, h.t, h.i, h.a, h.bel.drew⟩
theorem St.pushK (h : St B w0 L items gp gk gt gi ga tv ck ct ci ca w) (hF : Five B gp gk gt gi ga) (hl : ck.length < L) (v : Value) :
    St B w0 L items gp gk gt gi ga tv (ck ++ [v]) ct ci ca ((w.setCell ⟨gk, ck.length, none⟩ v).setCell ⟨gp, 0, none⟩ (.slice (some ⟨gk, 0, none⟩) (ck.length + 1) L)) :=
  ⟨by have := (h.p.other hF.pk ck.length v).set 0 (.slice (some ⟨gk, 0, none⟩) (ck.length + 1) L); simpa [fieldsV] using this,
   (h.k.push hl v).other hF.pk.symm _ _, (h.t.other hF.kt.symm _ _).other hF.pt.symm _ _, (h.i.other hF.ki.symm _ _).other hF.pi.symm _ _, (h.a.other hF.ka.symm _ _).other hF.pa.symm _ _, (h.bel.setCell hF.bk _).setCell hF.bp _⟩
theorem St.pushT (h : St B w0 L items gp gk gt gi ga tv ck ct ci ca w) (hF : Five B gp gk gt gi ga) (hl : ct.length < L) (v : Value) :
    St B w0 L items gp gk gt gi ga tv ck (ct ++ [v]) ci ca ((w.setCell ⟨gt, ct.length, none⟩ v).setCell ⟨gp, 2, none⟩ (.slice (some ⟨gt, 0, none⟩) (ct.length + 1) L)) :=
  ⟨by have := (h.p.other hF.pt ct.length v).set 2 (.slice (some ⟨gt, 0, none⟩) (ct.length + 1) L); simpa [fieldsV] using this,
   (h.k.other hF.kt _ _).other hF.pk.symm _ _, (h.t.push hl v).other hF.pt.symm _ _, (h.i.other hF.ti.symm _ _).other hF.pi.symm _ _, (h.a.other hF.ta.symm _ _).other hF.pa.symm _ _, (h.bel.setCell hF.bt _).setCell hF.bp _⟩
theorem St.pushI (h : St B w0 L items gp gk gt gi ga tv ck ct ci ca w) (hF : Five B gp gk gt gi ga) (hl : ci.length < L) (v : Value) :
    St B w0 L items gp gk gt gi ga tv ck ct (ci ++ [v]) ca ((w.setCell ⟨gi, ci.length, none⟩ v).setCell ⟨gp, 3, none⟩ (.slice (some ⟨gi, 0, none⟩) (ci.length + 1) L)) :=
  ⟨by have := (h.p.other hF.pi ci.length v).set 3 (.slice (some ⟨gi, 0, none⟩) (ci.length + 1) L); simpa [fieldsV] using this,
   (h.k.other hF.ki _ _).other hF.pk.symm _ _, (h.t.other hF.ti _ _).other hF.pt.symm _ _, (h.i.push hl v).other hF.pi.symm _ _, (h.a.other hF.ia.symm _ _).other hF.pa.symm _ _, (h.bel.setCell hF.bi _).setCell hF.bp _⟩
theorem St.pushA (h : St B w0 L items gp gk gt gi ga tv ck ct ci ca w) (hF : Five B gp gk gt gi ga) (hl : ca.length < L) (v : Value) :
    St B w0 L items gp gk gt gi ga tv ck ct ci (ca ++ [v]) ((w.setCell ⟨ga, ca.length, none⟩ v).setCell ⟨gp, 5, none⟩ (.slice (some ⟨ga, 0, none⟩) (ca.length + 1) L)) :=
  ⟨by have := (h.p.other hF.pa ca.length v).set 5 (.slice (some ⟨ga, 0, none⟩) (ca.length + 1) L); simpa [fieldsV] using this,
   (h.k.other hF.ka _ _).other hF.pk.symm _ _, (h.t.other hF.ta _ _).other hF.pt.symm _ _, (h.i.other hF.ia _ _).other hF.pi.symm _ _, (h.a.push hl v).other hF.pa.symm _ _, (h.bel.setCell hF.ba _).setCell hF.bp _⟩
theorem St.out (h : St B w0 L items gp gk gt gi ga tv ck ct ci ca w) {gr : Nat} (h1 : gp ≠ gr) (h2 : gk ≠ gr) (h3 : gt ≠ gr) (h4 : gi ≠ gr) (h5 : ga ≠ gr) (hB : B ≤ gr) (j : Nat) (v : Value) :
    St B w0 L items gp gk gt gi ga tv ck ct ci ca (w.setCell ⟨gr, j, none⟩ v) :=
  ⟨h.p.other h1 _ _, h.k.other h2 _ _, h.t.other h3 _ _, h.i.other h4 _ _, h.a.other h5 _ _, h.bel.setCell hB _⟩
end
end Go.Proofs.Qxb6619397a
