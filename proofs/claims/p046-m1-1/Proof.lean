import JvmDerived
import JvmDerived.Pilot.@@N@@Statement
import JvmDerived.Pilot.@@N@@Code
set_option linter.unusedVariables false
set_option linter.unusedSimpArgs false
namespace Jvm.RoadKit
open Sem ClassFile Op Lib Jvm.Stand Jvm.Free Jvm.LawKit
section OwnKit
variable {p : Program} {l : Launch} {e : Env} {R : Room} {s : State} {m : MethodId} {args : Array Value} {below : List Frame} {meth : Method} {c : Code} {T T' : State} {locs : List Loc} {cells slots : Nat} {g g' : JFrame} {P : State → Outcome → Prop} {Z : State} {h h' h2 : Heap} {a b : Addr} {sl : Nat} {v : Value}
def Rch (p : Program) (e : Env) (below : List Frame) (T : State) (g : JFrame) (P : State → Outcome → Prop) : Prop := ∃ s₂ o, Steps p.tables e below (T.setTop g) s₂ ∧ s₂.status = .running ∧ Ended s₂ below o ∧ P s₂ o
theorem Rch.st (st : ∀ t, Steps p.tables e below (T'.setTop g') t → Steps p.tables e below (T.setTop g) t) (r : Rch p e below T' g' P) : Rch p e below T g P := by
  obtain ⟨s₂, o, h1, h2⟩ := r
  exact ⟨s₂, o, st _ h1, h2⟩
theorem Rch.go (st : Steps p.tables e below (T.setTop g) (T'.setTop g')) (r : Rch p e below T' g' P) : Rch p e below T g P := Rch.st (fun _ k => st.trans k) r
theorem Rch.cast (q : g = g') (r : Rch p e below T g' P) : Rch p e below T g P := q ▸ r
theorem Rch.fin (X : Stand p l e R s m args below meth c T locs cells slots) {v : Option Value} (hv : meth.sig.returnType = none → v = none) (hlk : meth.locks = false) {Q : Option Value → Heap → List Loc → Prop} {k n : Nat}
    (hret : ∀ fs, (∀ (f : JFrame) (acts : List Action), f.method = m → f.locked = none → f.entered = [] → (doReturn e (T.setTop f) acts v).1 = T.setFrames fs) → Steps p.tables e below (T.setTop g) (T.setFrames fs))
    (hq : Q v T.heap locs) (hk : cells ≤ k) (hn : slots ≤ n) : Rch p e below T g (fun U o => ∃ v L, o = .returned v ∧ Q v U.heap L ∧ FrameEnd s o U L k n) := by
  obtain ⟨fs, hr, hrun, hended, hW, hsame⟩ := X.leave hv hlk
  exact ⟨_, _, hret fs hr, hrun, hended, _, _, rfl, hq, ⟨_, rfl⟩, hW, hsame.mono hk hn⟩
theorem Rch.finW {vm0 : Vm} {EL : List (String × Nat)} {a0 : Array Value} (X : Stand p l e R (s.setVm vm0) m args below meth c T locs cells slots) (hZ : Z.Warmed39 vm0) (hEL : EW Z a0 EL) {k0 : Nat} (hS : s.Since vm0 k0) (hk0 : k0 ≤ T.heap.size) (eT : T.heap = h) (hC : CHr Z EL s.vm s.heap vm0 h) {v : Option Value} (hv : meth.sig.returnType = none → v = none) (hlk : meth.locks = false) {Q : Option Value → Heap → List Loc → Prop} {k n : Nat}
    (hret : ∀ fs, (∀ (f : JFrame) (acts : List Action), f.method = m → f.locked = none → f.entered = [] → (doReturn e (T.setTop f) acts v).1 = T.setFrames fs) → Steps p.tables e below (T.setTop g) (T.setFrames fs))
    (hq : Q v T.heap locs) (hk : cells ≤ k) (hn : slots ≤ n) : Rch p e below T g (fun U o => ∃ v L, o = .returned v ∧ Q v U.heap L ∧ CHr Z EL s.vm s.heap U.vm U.heap ∧ ReturnedEndW s o U L k n) := by
  obtain ⟨fs, hr, hrun, hended, q1, q2, q3, q4⟩ := X.leaveW hS hk0 hv hlk
  subst eT
  exact ⟨_, _, hret fs hr, hrun, hended, _, _, rfl, hq, hC.trans (show CHr Z EL vm0 T.heap T.vm T.heap from CHv.at X hZ hEL hC.1), q1, q2, q3, q4.mono hk hn⟩
theorem retR (X : Stand p l e R s m args below meth c T locs cells slots) (hx : p.tables.exec = Jvm.exec) {pc : Nat} {Ls : Array Slot} {w : Value} {t : FieldType} {rest : List Value} (hret : meth.sig.returnType = some t) (ht : t.isReference = true) (hw : w.isRef = true) (hd : decode c.code pc = .ok (.areturn, 1)) {fs : List Frame}
    (hl : ∀ (f : JFrame) (acts : List Action), f.method = m → f.locked = none → f.entered = [] → (doReturn e (T.setTop f) acts (some w)).1 = T.setFrames fs) : Steps p.tables e below (T.setTop (mkF m pc Ls (w :: rest))) (T.setFrames fs) :=
  retOut X hx hret (by cases t <;> first | rfl | cases ht) (Or.inr (Or.inr (Or.inr (Or.inr ⟨rfl, ht, hw⟩)))) hd hl
theorem retI (X : Stand p l e R s m args below meth c T locs cells slots) (hx : p.tables.exec = Jvm.exec) {pc : Nat} {Ls : Array Slot} {z : Int32} {rest : List Value} (hret : meth.sig.returnType = some .int) (hd : decode c.code pc = .ok (.ireturn, 1)) {fs : List Frame}
    (hl : ∀ (f : JFrame) (acts : List Action), f.method = m → f.locked = none → f.entered = [] → (doReturn e (T.setTop f) acts (some (.int z))).1 = T.setFrames fs) : Steps p.tables e below (T.setTop (mkF m pc Ls (.int z :: rest))) (T.setFrames fs) :=
  retOut X hx hret rfl (Or.inl ⟨rfl, Or.inl rfl, _, rfl⟩) hd hl
theorem Ext.rf : Ext h h := ⟨Nat.le_refl _, fun _ _ q => q⟩
theorem Ext.tr (A : Ext h h') (B : Ext h' h2) : Ext h h2 := ⟨Nat.le_trans A.1 B.1, fun x c q => B.2 x c (A.2 x c q)⟩
theorem extKeep {ws : List Addr} (A : Ext h h') (K : Keep h' h2 ws) (q : ∀ x ∈ ws, h.size ≤ x) : Ext h h2 := ⟨Nat.le_trans A.1 K.1, fun x c r => K.2.1 x c (A.2 x c r) (fun z => absurd (Array.getElem?_eq_some_iff.mp r).1 (Nat.not_lt.mpr (q x z)))⟩
theorem extWr (A : Ext h h') (W : Wr h' h2 a sl v) (q : h.size ≤ a) : Ext h h2 := extKeep A (Keep.of_wr W) (allS q all0)
theorem extKeep1 (A : Ext h h') (K : Keep h' h2 [a]) (q : h.size ≤ a) : Ext h h2 := extKeep A K (allS q all0)
theorem Ext.keep (A : Ext h h') (ws : List Addr) : Keep h h' ws := ⟨A.1, fun x c q _ => A.2 x c q, fun x c q => ⟨c, A.2 x c q, rfl, rfl, rfl⟩⟩
theorem fr_app {k : Nat} {L L' : List Loc} (N : Fr k L) (N' : Fr k L') : Fr k (L ++ L') := Fr.app N N'
theorem stCv {n0 : Nat} (X : Stand p l e R s m args below meth c T locs cells slots) (hx : p.tables.exec = Jvm.exec) (hZ : Z.Warmed39 s.vm) (eT : T.heap = h) {k : ClassId} {z : Int32} {vs : List Value} (M : Arv Z h b k .char z vs (.int 0)) (N : Fr n0 locs) (hb : n0 ≤ b) {j x : Int32} (hj : ¬ j < 0 ∧ j < z) (i : Nat) (hi : j.toNatClampNeg = i) (hl : i < vs.length) {g : JFrame} (hg : g.method = m) {rest : List Value} (hs : g.stack = .int x :: .int j :: .ref b :: rest) (hd : decode c.code g.pc = .ok (.castore, 1)) :
    ∃ T' h' locs' sl, Stand p l e R s m args below meth c T' locs' cells slots ∧ T'.heap = h' ∧ Wr h h' b sl (.int (nar .char x)) ∧ Arv Z h' b k .char z (vs.set i (.int (nar .char x))) (.int 0) ∧ Fr n0 locs' ∧ ∀ target, Steps p.tables e below (T'.setTop { g with pc := g.pc + 1, stack := rest }) target → Steps p.tables e below (T.setTop g) target := by
  obtain ⟨cl, A, q1, S, q3, H, G⟩ := M
  obtain ⟨T', h', X', e', W, st⟩ := stC X hx hZ eT A (inb_of S hj) hg hs hd
  exact ⟨T', h', _, _, X', e', W, Arv.set A q1 S q3 H G (fits_nar_char _) W i hi hl, Fr.snoc X' N hb, st⟩
theorem aalA (X : Stand p l e R s m args below meth c T locs cells slots) (hx : p.tables.exec = Jvm.exec) (hZ : Z.Warmed39 s.vm) (eT : T.heap = h) {k : ClassId} {ty : FieldType} {z : Int32} {vs : List Value} {dv : Value} (M : Arh Z h b k ty z [] vs dv) (hr : ty.isReference = true) {j : Int32} (hj : ¬ j < 0 ∧ j < z) {v : Value} (hv : vs.getD j.toNatClampNeg dv = v) {g : JFrame} (hg : g.method = m) {rest : List Value} (hs : g.stack = .int j :: .ref b :: rest) (hd : decode c.code g.pc = .ok (.aaload, 1)) :
    ∀ target, Steps p.tables e below (T.setTop { g with pc := g.pc + 1, stack := v :: rest }) target → Steps p.tables e below (T.setTop g) target := by
  obtain ⟨cl, A, q1, S, q3, H, G⟩ := M
  exact fun t k => X.aaload hx (j := j) (v := v) (by rw [eT]; exact A.1) (State.isArrayOf_alike hZ.alike A.2.1) hr A.2.2 (inb_of S hj) (atH H (inb_of S hj) hv) hg hs hd _ k
theorem alenA (X : Stand p l e R s m args below meth c T locs cells slots) (hx : p.tables.exec = Jvm.exec) (hZ : Z.Warmed39 s.vm) (eT : T.heap = h) {k : ClassId} {ty : FieldType} {z : Int32} {hs' : List (Int32 × Value)} {vs : List Value} {dv : Value} (M : Arh Z h b k ty z hs' vs dv) {g : JFrame} (hg : g.method = m) {rest : List Value} (hs : g.stack = .ref b :: rest) (hd : decode c.code g.pc = .ok (.arraylength, 1)) :
    ∀ target, Steps p.tables e below (T.setTop { g with pc := g.pc + 1, stack := .int z :: rest }) target → Steps p.tables e below (T.setTop g) target := by
  obtain ⟨cl, A, q1, S, q3, H, G⟩ := M
  intro t k
  refine X.arraylength hx (by rw [eT]; exact A.1) (State.isArrayOf_alike hZ.alike A.2.1) hg hs hd _ ?_
  rw [len_of S q3]
  exact k
end OwnKit
section OwnStart
variable {args : Array Value} {s : State} {t u : Term} {a w : Addr} {cl : Cell}
theorem len_is {n : Int32} (ht : t.eval args s none [] s = some (.ref a)) (hc : s.heap[a]? = some cl) (h : (Cond.eq (.length t) (.int n)).value args s none s [] = some true) : cl.slots.size < 2 ^ 31 ∧ cl.slots.size.toInt32 = n := by
  obtain ⟨x, y, e1, e2, -⟩ := cmp_v (Or.inl h)
  obtain ⟨a', cell, h1, h2, rfl⟩ := Term.length_spec e1
  cases ht.symm.trans h1
  cases hc.symm.trans (State.arrayAt?_spec h2).1
  have q := gotT (Cond.eq_ints e1 (Term.int_eval n)) h
  refine ⟨?_, q⟩
  by_cases hl : cl.slots.size < 2 ^ 31
  · exact hl
  · simp [Term.eval, h1, h2, hl] at e1
theorem elem_ref {j : Int32} (ht : t.eval args s none [] s = some (.ref a)) (hu : u.eval args s none [] s = some (.ref w)) (hc : s.heap[a]? = some cl) (h : (Cond.eq (.elem t (.int j)) u).value args s none s [] = some true) : cl.slots[j.toNatClampNeg]? = some (.ref w) := by
  obtain ⟨x, y, e1, e2, k1, k2⟩ := cmp_v (Or.inl h)
  cases hu.symm.trans e2
  obtain ⟨-, q⟩ := elem_in e1 ht (Term.int_eval j) hc
  have hx : x.isRef = true := k2.2
  have := gotT (eq_R e1 e2 hx rfl) h
  rw [this] at q; exact q
theorem elem_int {j z : Int32} (ht : t.eval args s none [] s = some (.ref a)) (hc : s.heap[a]? = some cl) (h : (Cond.eq (.elem t (.int j)) (.int z)).value args s none s [] = some true) : cl.slots[j.toNatClampNeg]? = some (.int z) := by
  obtain ⟨x, y, e1, e2, k1, k2⟩ := cmp_v (Or.inl h)
  cases (Term.int_eval z).symm.trans e2
  obtain ⟨-, q⟩ := elem_in e1 ht (Term.int_eval j) hc
  obtain ⟨x', rfl⟩ := k2
  have := gotT (Cond.eq_ints e1 (Term.int_eval z)) h
  rw [this] at q; exact q
theorem fld_int {C n d : String} {z : Int32} (ht : t.eval args s none [] s = some (.ref a)) (h : (Cond.eq (.field t C n d) (.int z)).value args s none s [] = some true) : Fld s s.heap a C n d (.int z) := by
  obtain ⟨x, y, e1, e2, k1, k2⟩ := cmp_v (Or.inl h)
  cases (Term.int_eval z).symm.trans e2
  obtain ⟨x', rfl⟩ := k2
  have q := gotT (Cond.eq_ints e1 (Term.int_eval z)) h
  rw [q, fld_at ht] at e1
  exact Fld.start e1
theorem fld_refS {C n d : String} (ht : t.eval args s none [] s = some (.ref a)) (h : (Term.field t C n d).eval args s none [] s = some (.ref w)) : Fld s s.heap a C n d (.ref w) := by
  rw [fld_at ht] at h
  exact Fld.start h
end OwnStart
end Jvm.RoadKit
namespace Jvm.RoadKit
open Sem ClassFile Op Lib Jvm.Stand Jvm.Free Jvm.LawKit
section OwnKit2
variable {p : Program} {l : Launch} {e : Env} {R : Room} {s : State} {m : MethodId} {args : Array Value} {below : List Frame} {meth : Method} {c : Code} {T T' : State} {locs : List Loc} {cells slots : Nat} {Z : State} {h h' h2 : Heap} {a b : Addr} {sl : Nat} {v : Value}
theorem fits_nar_b (x : Int32) : fits .byte (.int (nar .byte x)) = true := fits_nar_byte x
theorem stBv {n0 : Nat} (X : Stand p l e R s m args below meth c T locs cells slots) (hx : p.tables.exec = Jvm.exec) (hZ : Z.Warmed39 s.vm) (eT : T.heap = h) {k : ClassId} {z : Int32} {vs : List Value} (M : Arv Z h b k .byte z vs (.int 0)) (N : Fr n0 locs) (hb : n0 ≤ b) {j x : Int32} (hj : ¬ j < 0 ∧ j < z) (i : Nat) (hi : j.toNatClampNeg = i) (hl : i < vs.length) {g : JFrame} (hg : g.method = m) {rest : List Value} (hs : g.stack = .int x :: .int j :: .ref b :: rest) (hd : decode c.code g.pc = .ok (.bastore, 1)) :
    ∃ T' h' locs' sl, Stand p l e R s m args below meth c T' locs' cells slots ∧ T'.heap = h' ∧ Wr h h' b sl (.int (nar .byte x)) ∧ Arv Z h' b k .byte z (vs.set i (.int (nar .byte x))) (.int 0) ∧ Fr n0 locs' ∧ ∀ target, Steps p.tables e below (T'.setTop { g with pc := g.pc + 1, stack := rest }) target → Steps p.tables e below (T.setTop g) target := by
  obtain ⟨cl, A, q1, S, q3, H, G⟩ := M
  obtain ⟨T', h', X', e', W, st⟩ := stB X hx hZ eT A (inb_of S hj) hg hs hd
  exact ⟨T', h', _, _, X', e', W, Arv.set A q1 S q3 H G (fits_nar_b _) W i hi hl, Fr.snoc X' N hb, st⟩
end OwnKit2
end Jvm.RoadKit
namespace Jvm.RoadKit
open Sem ClassFile Op Lib Bundle Jvm.Stand Jvm.Free Jvm.LawKit Jvm.Free.SB Jvm.Free.SBG
section OwnSafe
variable {Z : State} {EL : List (String × Nat)} {vm : Vm} {h : Heap}
/-- a String whose value is still null is no booked one -/
theorem Safe.blank {x : Addr} (hal : Z.vm.Alike vm) (E : Exa Z h x "java/lang/String") (F : Fld Z h x "java/lang/String" "value" "[B" .null) : Safe Z EL vm h x := fun B => by
  obtain ⟨p, -, u, a, -, q, -, G, rfl | rfl⟩ := B
  · obtain ⟨cell, cf, k, i, f, h1, h2, -, -, -, -, h7⟩ := F
    obtain ⟨cS, ⟨⟨s1, -, -, ⟨cv, kv, iv, s4, -⟩, -, -, -, s8, -⟩, -⟩, -⟩ := G
    cases h1.symm.trans (show h[q.sa]? = some q.sC from s1)
    obtain ⟨k3, e3, -⟩ := State.fieldFound?_setVm (s := Z) hal h2
    have e4 := (show (Wst Z vm h).fieldFound? _ _ _ = _ from e3).symm.trans s4
    simp only [Option.some.injEq, Prod.mk.injEq] at e4
    rw [← e4.2.2.2, h7] at s8
    cases s8
  · obtain ⟨cell, k, e1, e2, e3, -, -⟩ := E
    cases (show h[q.sd]? = some q.SA from G.hd).symm.trans e1
    obtain ⟨cS, -, -, f, -⟩ := G
    have f' : vm.findClass "[B" = some q.SA.cls := f
    rw [hal.findClass] at f'
    obtain ⟨k1, q1, q2⟩ := Vm.findClass_spec f'
    obtain ⟨k2, q3, q4⟩ := Vm.findClass_spec e2
    cases q1.symm.trans q3
    exact absurd (q2.symm.trans q4) (by decide)
end OwnSafe
end Jvm.RoadKit
namespace Jvm.RoadKit
open Sem ClassFile Op Lib Jvm.Stand Jvm.Free Jvm.LawKit
section OwnKit3
variable {p : Program} {l : Launch} {e : Env} {R : Room} {s : State} {m : MethodId} {args : Array Value} {below : List Frame} {meth : Method} {c : Code} {T T' : State} {locs : List Loc} {cells slots : Nat} {Z : State} {h h' h2 : Heap} {a b : Addr} {sl : Nat} {v : Value}
theorem balA (X : Stand p l e R s m args below meth c T locs cells slots) (hx : p.tables.exec = Jvm.exec) (hZ : Z.Warmed39 s.vm) (eT : T.heap = h) {k : ClassId} {z : Int32} {vs : List Value} {dv : Value} (M : Arv Z h b k .byte z vs dv) {j : Int32} (hj : ¬ j < 0 ∧ j < z) {v : Value} (hv : vs.getD j.toNatClampNeg dv = v) {g : JFrame} (hg : g.method = m) {rest : List Value} (hs : g.stack = .int j :: .ref b :: rest) (hd : decode c.code g.pc = .ok (.baload, 1)) :
    ∀ target, Steps p.tables e below (T.setTop { g with pc := g.pc + 1, stack := v :: rest }) target → Steps p.tables e below (T.setTop g) target := by
  obtain ⟨cl, A, q1, S, q3, H, G⟩ := M
  exact fun t k => X.baloadBytes hx (j := j) (v := v) (by rw [eT]; exact A.1) (State.isArrayOf_alike hZ.alike A.2.1) A.2.2 (inb_of S hj) (H.at (inb_of S hj) hv) hg hs hd _ k
theorem calA (X : Stand p l e R s m args below meth c T locs cells slots) (hx : p.tables.exec = Jvm.exec) (hZ : Z.Warmed39 s.vm) (eT : T.heap = h) {k : ClassId} {z : Int32} {vs : List Value} {dv : Value} (M : Arv Z h b k .char z vs dv) {j : Int32} (hj : ¬ j < 0 ∧ j < z) {v : Value} (hv : vs.getD j.toNatClampNeg dv = v) {g : JFrame} (hg : g.method = m) {rest : List Value} (hs : g.stack = .int j :: .ref b :: rest) (hd : decode c.code g.pc = .ok (.caload, 1)) :
    ∀ target, Steps p.tables e below (T.setTop { g with pc := g.pc + 1, stack := v :: rest }) target → Steps p.tables e below (T.setTop g) target := by
  obtain ⟨cl, A, q1, S, q3, H, G⟩ := M
  exact fun t k => X.caload hx (j := j) (v := v) (by rw [eT]; exact A.1) (State.isArrayOf_alike hZ.alike A.2.1) A.2.2 (inb_of S hj) (H.at (inb_of S hj) hv) hg hs hd _ k
theorem ofN_neg {n : Nat} (h : n < 2 ^ 31) : ¬ Int32.ofNat n < 0 := Int32.ofNat_not_neg h
theorem ofN_lt {i n : Nat} (h : i < n) (hn : n < 2 ^ 31) : Int32.ofNat i < Int32.ofNat n := by
  rw [Int32.lt_iff_toInt_lt, Int32.toInt_ofNat_small (show i < 2 ^ 31 by omega), Int32.toInt_ofNat_small hn]; omega
theorem ofN_le {i n : Nat} (h : n ≤ i) (hi : i < 2 ^ 31) : ¬ Int32.ofNat i < Int32.ofNat n := by
  rw [Int32.lt_iff_toInt_lt, Int32.toInt_ofNat_small hi, Int32.toInt_ofNat_small (show n < 2 ^ 31 by omega)]; omega
theorem ofN_clamp {n : Nat} (h : n < 2 ^ 31) : (Int32.ofNat n).toNatClampNeg = n := by
  show (Int32.ofNat n).toInt.toNat = n
  rw [Int32.toInt_ofNat_small h]; rfl
end OwnKit3
end Jvm.RoadKit
namespace Jvm.RoadKit
open Sem ClassFile Op Lib Jvm.Stand Jvm.Free Jvm.LawKit
theorem eval_int {args : Array Value} {s : State} {t : Term} {z : Int32} (h : (Cond.eq t (.int z)).value args s none s [] = some true) : t.eval args s none [] s = some (.int z) := by
  obtain ⟨x, y, e1, e2, k1, k2⟩ := cmp_v (Or.inl h)
  cases (Term.int_eval z).symm.trans e2
  obtain ⟨x', rfl⟩ := k2
  rw [gotT (Cond.eq_ints e1 (Term.int_eval z)) h] at e1
  exact e1
end Jvm.RoadKit
/- laws to paste: Road.backV, Road.eqW, Road.codOf (cut by pick.py; bodies as the Statement names them) -/
namespace Jvm.Pilot.@@N@@
namespace StrChars
open Jvm Sem ClassFile Op Lib Jvm.Stand Jvm.Free.XT Jvm.Free.ALB Jvm.Free.JM Jvm.Free
open Jvm.Lib.Cold (StaticIs)
/-- a char array whose places are chars -/
def Ch (a : Addr) (A : Cell) (U : State) : Prop := Arr .char a A U ∧ Typed .char A
theorem Ch.mv {a : Addr} {A : Cell} {U U' : State} (h : Ch a A U) (hal : U.vm.Alike U'.vm) (hh : U'.heap = U.heap) : Ch a A U' := ⟨h.1.mv hal hh, h.2⟩
theorem Ch.keep {a : Addr} {A : Cell} {U U' : State} (h : Ch a A U) (hal : U.vm.Alike U'.vm) (hk : U'.heap[a]? = some A) : Ch a A U' := ⟨h.1.keep hal hk, h.2⟩
/-- what place i of a char[]'s cell holds -/
def cv (A : Cell) (i : Nat) : Int32 := match A.slots[i]? with | some (.int x) => x | _ => 0
theorem Ch.get {a : Addr} {A : Cell} {U : State} (h : Ch a A U) {i : Nat} (hi : i < A.slots.size) : A.slots[i]? = some (.int (cv A i)) := by
  have e := Array.getElem?_eq_getElem hi
  have f := h.2 i _ e
  unfold cv; rw [e]
  generalize A.slots[i] = v at f
  cases v <;> simp [fits] at f ⊢
/-- the byte that i2b leaves of a char -/
def lo8 (x : Int32) : Int32 := x.toInt8.toInt32
theorem fits_lo8 (y : Int32) : fits .byte (.int (lo8 y)) = true := by
  have h1 := y.toInt8.le_toInt
  have h2 := y.toInt8.toInt_lt
  simp only [lo8, fits, Bool.and_eq_true, decide_eq_true_eq, Int32.le_iff_toInt_le, Int8.toInt_toInt32, show (-128 : Int32).toInt = -128 from by decide, show (127 : Int32).toInt = 127 from by decide]
  omega
/-- A' is A but that each place j of lo .. hi - 1 holds f j -/
def Laid (A A' : Cell) (lo hi : Nat) (f : Nat → Value) : Prop := A'.cls = A.cls ∧ A'.vm = A.vm ∧ A'.slots.size = A.slots.size ∧ ∀ i, A'.slots[i]? = if lo ≤ i ∧ i < hi then some (f i) else A.slots[i]?
theorem Laid.zero (A : Cell) (lo : Nat) (f : Nat → Value) : Laid A A lo (lo + 0) f := ⟨rfl, rfl, rfl, fun i => by rw [if_neg (by omega)]⟩
theorem Laid.step {A Ak : Cell} {lo k : Nat} {f : Nat → Value} {v : Value} (h : Laid A Ak lo k f) (hlo : lo ≤ k) (hk : k < Ak.slots.size) (hv : v = f k) : Laid A (Ak.setSlot k v) lo (k + 1) f := by
  refine ⟨h.1, h.2.1, by simpa [Cell.setSlot] using h.2.2.1, fun i => ?_⟩
  by_cases e : k = i
  · subst e; rw [Cell.slots_setSlot_self v hk, if_pos (by omega), hv]
  · rw [Cell.slots_setSlot_ne v e, h.2.2.2 i]
    by_cases q : lo ≤ i ∧ i < k
    · rw [if_pos q, if_pos (by omega)]
    · rw [if_neg q, if_neg (by omega)]
def U16 : String := "java/lang/StringUTF16"
namespace Cmp5
def yN : MethodName := ⟨"java/lang/StringUTF16", "compress", "([CI[BII)I"⟩
abbrev yB : ByteArray := jdk_52_method_21_code
theorem d0 : decode yB 0 = .ok (.iconst 0, 1) := by decide +kernel
theorem d1 : decode yB 1 = .ok (.istore 5, 2) := by decide +kernel
theorem d3 : decode yB 3 = .ok (.iload 5, 2) := by decide +kernel
theorem d5 : decode yB 5 = .ok (.iload 4, 2) := by decide +kernel
theorem d7 : decode yB 7 = .ok (.if_icmp (.ge) 37, 3) := by decide +kernel
theorem d10 : decode yB 10 = .ok (.aload_n 0, 1) := by decide +kernel
theorem d11 : decode yB 11 = .ok (.iload_n 1, 1) := by decide +kernel
theorem d12 : decode yB 12 = .ok (.caload, 1) := by decide +kernel
theorem d13 : decode yB 13 = .ok (.istore 6, 2) := by decide +kernel
theorem d15 : decode yB 15 = .ok (.iload 6, 2) := by decide +kernel
theorem d17 : decode yB 17 = .ok (.sipush 255, 3) := by decide +kernel
theorem d20 : decode yB 20 = .ok (.if_icmp (.le) 6, 3) := by decide +kernel
theorem d26 : decode yB 26 = .ok (.aload_n 2, 1) := by decide +kernel
theorem d27 : decode yB 27 = .ok (.iload_n 3, 1) := by decide +kernel
theorem d28 : decode yB 28 = .ok (.iload 6, 2) := by decide +kernel
theorem d30 : decode yB 30 = .ok (.i2b, 1) := by decide +kernel
theorem d31 : decode yB 31 = .ok (.bastore, 1) := by decide +kernel
theorem d32 : decode yB 32 = .ok (.iinc 1 1, 3) := by decide +kernel
theorem d35 : decode yB 35 = .ok (.iinc 3 1, 3) := by decide +kernel
theorem d38 : decode yB 38 = .ok (.iinc 5 1, 3) := by decide +kernel
theorem d41 : decode yB 41 = .ok (.goto (-38), 3) := by decide +kernel
theorem d44 : decode yB 44 = .ok (.iload 4, 2) := by decide +kernel
theorem d46 : decode yB 46 = .ok (.ireturn, 1) := by decide +kernel
def site : List Cond := []
def tab : Cond := tabOf yN yB 7 (some .int) site
def P (b : Addr) (A : Cell) (d : Addr) (B : Cell) (o q len : Nat) (args : Array Value) (s : State) : Prop := args = #[.ref b, .int (Int32.ofNat o), .ref d, .int (Int32.ofNat q), .int (Int32.ofNat len)] ∧ Ch b A s ∧ Arr .byte d B s ∧ b ≠ d ∧ o + len ≤ A.slots.size ∧ q + len ≤ B.slots.size ∧ ∀ i, i < len → ¬ 255 < cv A (o + i)
def E (b : Addr) (A : Cell) (d : Addr) (B : Cell) (o q len : Nat) (r : Option Value) (s u : State) : Prop := r = some (.int (Int32.ofNat len)) ∧ ∃ B', Put d B' s u ∧ Laid B B' q (q + len) (fun j => Value.int (lo8 (cv A (o + (j - q)))))
/-- no char of the range above 255: len; the places written hold each char's low byte -/
theorem law (l : Launch) (b : Addr) (A : Cell) (d : Addr) (B : Cell) (o q len : Nat) : Law l yN 5 5 0 0 yB 7 (some .int) site (P b A d B o q len) (E b A d B o q len) (copyLocs d q len) 0 0 := by
  refine Law.of_walk (plainFor_of_name (by decide +kernel)) (by decide +kernel) (by decide +kernel) (by decide) (fun _ _ h => by rw [h.1]; rfl) (fun _ U U' hal hh h => ⟨h.1, h.2.1.mv hal hh, h.2.2.1.mv hal hh, h.2.2.2⟩) (fun r U U' V V' h1 hal h2 h => ⟨h.1, h.2.elim fun B' q => ⟨B', q.1.mv h1 h2, q.2⟩⟩) ?_
  intro p e s m args below meth c s₁ X0 hexec hbytes hml hret hlk hnm hown hh0 W hP
  obtain ⟨rfl, hA, hB, hne, l1, l2, hp⟩ := hP
  have c1 : Steps p.tables e below (s₁.setTop (entryFrame m #[.ref b, .int (Int32.ofNat o), .ref d, .int (Int32.ofNat q), .int (Int32.ofNat len)] 7)) (s₁.setTop (mkF m 0 #[.val (.ref b), .val (.int (Int32.ofNat o)), .val (.ref d), .val (.int (Int32.ofNat q)), .val (.int (Int32.ofNat len)), .unset, .unset] [])) := entry rfl
  have hA0 := hA.1.mv X0.warmed.alike hh0
  have hB0 := hB.mv X0.warmed.alike hh0
  have a31 := hA.1.2.2.2
  have c2 : Steps p.tables e below (s₁.setTop (entryFrame m #[.ref b, .int (Int32.ofNat o), .ref d, .int (Int32.ofNat q), .int (Int32.ofNat len)] 7)) (s₁.setTop (mkF m 3 #[.val (.ref b), .val (.int (Int32.ofNat o)), .val (.ref d), .val (.int (Int32.ofNat q)), .val (.int (Int32.ofNat len)), .val (.int 0), .unset] [])) := c1.trans (by
    refine iconstV X0.here hexec rfl 0 (hb hbytes d0) (by decide) ?_
    refine XS.istore X0.here hexec rfl (hb hbytes d1) rfl rfl ?_
    exact Steps.refl _)
  have loop : ∀ (r i : Nat), i + r = len → ∀ (z : Slot), (z = .unset ∨ ∃ w, z = .val w ∧ w.category = 1) → ∀ (Tl : State) (Bk : Cell), Stand p l e { frames := 0, locals := 0, cells := 0, slots := 0 } s m #[.ref b, .int (Int32.ofNat o), .ref d, .int (Int32.ofNat q), .int (Int32.ofNat len)] below meth c Tl ([] ++ copyLocs d q i) 0 0 → Put d Bk s₁ Tl → Laid B Bk q (q + i) (fun j => Value.int (lo8 (cv A (o + (j - q))))) →
      Steps p.tables e below (s₁.setTop (entryFrame m #[.ref b, .int (Int32.ofNat o), .ref d, .int (Int32.ofNat q), .int (Int32.ofNat len)] 7)) (Tl.setTop (mkF m 3 #[.val (.ref b), .val (.int (Int32.ofNat (o + i))), .val (.ref d), .val (.int (Int32.ofNat (q + i))), .val (.int (Int32.ofNat len)), .val (.int (Int32.ofNat i)), z] [])) → ∃ (T' : State) (B' : Cell) (z' : Slot), Stand p l e { frames := 0, locals := 0, cells := 0, slots := 0 } s m #[.ref b, .int (Int32.ofNat o), .ref d, .int (Int32.ofNat q), .int (Int32.ofNat len)] below meth c T' ([] ++ copyLocs d q len) 0 0 ∧ Put d B' s₁ T' ∧ Laid B B' q (q + len) (fun j => Value.int (lo8 (cv A (o + (j - q))))) ∧
      Steps p.tables e below (s₁.setTop (entryFrame m #[.ref b, .int (Int32.ofNat o), .ref d, .int (Int32.ofNat q), .int (Int32.ofNat len)] 7)) (T'.setTop (mkF m 3 #[.val (.ref b), .val (.int (Int32.ofNat (o + len))), .val (.ref d), .val (.int (Int32.ofNat (q + len))), .val (.int (Int32.ofNat len)), .val (.int (Int32.ofNat len)), z'] [])) := by
    intro r
    induction r with
    | zero =>
      intro i hi z hz Tl Bk Xl pl fl cl
      have hil : i = len := by omega
      rw [hil] at Xl fl cl
      exact ⟨Tl, Bk, z, Xl, pl, fl, cl⟩
    | succ r ih =>
      intro i hi z hz Tl Bk Xl pl fl cl
      have all := X0.warmed.alike.symm.trans Xl.warmed.alike
      have hAl := hA0.keep all (pl.other hne hA0.1)
      have hBk := hB0.like all pl.1 fl.1 fl.2.1 fl.2.2.1
      have hlt : q + i < Bk.slots.size := by rw [fl.2.2.1]; omega
      have c3 : Steps p.tables e below (s₁.setTop (entryFrame m #[.ref b, .int (Int32.ofNat o), .ref d, .int (Int32.ofNat q), .int (Int32.ofNat len)] 7)) (Tl.setTop (mkF m 12 #[.val (.ref b), .val (.int (Int32.ofNat (o + i))), .val (.ref d), .val (.int (Int32.ofNat (q + i))), .val (.int (Int32.ofNat len)), .val (.int (Int32.ofNat i)), z] [.int (Int32.ofNat (o + i)), .ref b])) := cl.trans (by
        refine XS.iload Xl.here hexec rfl (hb hbytes d3) rfl ?_
        refine XS.iload Xl.here hexec rfl (hb hbytes d5) rfl ?_
        refine XS.icmpNo Xl.here hexec rfl (hb hbytes d7) rfl (ii_ge_f (lt32 (by omega) (by omega))) ?_
        refine XS.aloadN Xl.here hexec rfl (hb hbytes d10) rfl rfl ?_
        refine XS.iloadN Xl.here hexec rfl (hb hbytes d11) rfl ?_
        exact Steps.refl _)
      have c4 : Steps p.tables e below (s₁.setTop (entryFrame m #[.ref b, .int (Int32.ofNat o), .ref d, .int (Int32.ofNat q), .int (Int32.ofNat len)] 7)) (Tl.setTop (mkF m 13 #[.val (.ref b), .val (.int (Int32.ofNat (o + i))), .val (.ref d), .val (.int (Int32.ofNat (q + i))), .val (.int (Int32.ofNat len)), .val (.int (Int32.ofNat i)), z] [.int (cv A (o + i))])) := c3.trans (by
        refine Xl.aget hexec hAl rfl (hA.get (i := o + i) (by omega)) rfl rfl (hb hbytes d12) ?_
        exact Steps.refl _)
      have c5 : Steps p.tables e below (s₁.setTop (entryFrame m #[.ref b, .int (Int32.ofNat o), .ref d, .int (Int32.ofNat q), .int (Int32.ofNat len)] 7)) (Tl.setTop (mkF m 15 #[.val (.ref b), .val (.int (Int32.ofNat (o + i))), .val (.ref d), .val (.int (Int32.ofNat (q + i))), .val (.int (Int32.ofNat len)), .val (.int (Int32.ofNat i)), .val (.int (cv A (o + i)))] [])) := c4.trans (by
        refine XS.istoreS Xl.here hexec rfl (hb hbytes d13) rfl rfl hz ?_
        exact Steps.refl _)
      have c6 : Steps p.tables e below (s₁.setTop (entryFrame m #[.ref b, .int (Int32.ofNat o), .ref d, .int (Int32.ofNat q), .int (Int32.ofNat len)] 7)) (Tl.setTop (mkF m 31 #[.val (.ref b), .val (.int (Int32.ofNat (o + i))), .val (.ref d), .val (.int (Int32.ofNat (q + i))), .val (.int (Int32.ofNat len)), .val (.int (Int32.ofNat i)), .val (.int (cv A (o + i)))] [.int (lo8 (cv A (o + i))), .int (Int32.ofNat (q + i)), .ref d])) := c5.trans (by
        refine XS.iload Xl.here hexec rfl (hb hbytes d15) rfl ?_
        refine sipushV Xl.here hexec rfl 255 (hb hbytes d17) (by decide) ?_
        refine XS.icmpYes Xl.here hexec rfl (pc0 := 20) rfl (hb hbytes d20) rfl (ii_le_t (hp i (by omega))) (by decide) rfl ?_
        refine XS.aloadN Xl.here hexec rfl (hb hbytes d26) rfl rfl ?_
        refine XS.iloadN Xl.here hexec rfl (hb hbytes d27) rfl ?_
        refine XS.iload Xl.here hexec rfl (hb hbytes d28) rfl ?_
        refine i2b Xl.here hexec rfl (hb hbytes d30) rfl ?_
        exact Steps.refl _)
      obtain ⟨T7, X7, p7, st7⟩ := Xl.aput hexec hBk rfl hlt rfl (fits_lo8 (cv A (o + i))) (g := (mkF m 31 #[.val (.ref b), .val (.int (Int32.ofNat (o + i))), .val (.ref d), .val (.int (Int32.ofNat (q + i))), .val (.int (Int32.ofNat len)), .val (.int (Int32.ofNat i)), .val (.int (cv A (o + i)))] [.int (lo8 (cv A (o + i))), .int (Int32.ofNat (q + i)), .ref d])) rfl (rest := []) rfl (hb hbytes d31)
      have c8 : Steps p.tables e below (s₁.setTop (entryFrame m #[.ref b, .int (Int32.ofNat o), .ref d, .int (Int32.ofNat q), .int (Int32.ofNat len)] 7)) (T7.setTop (mkF m 32 #[.val (.ref b), .val (.int (Int32.ofNat (o + i))), .val (.ref d), .val (.int (Int32.ofNat (q + i))), .val (.int (Int32.ofNat len)), .val (.int (Int32.ofNat i)), .val (.int (cv A (o + i)))] [])) := c6.trans (st7 _ (Steps.refl _))
      have c9 : Steps p.tables e below (s₁.setTop (entryFrame m #[.ref b, .int (Int32.ofNat o), .ref d, .int (Int32.ofNat q), .int (Int32.ofNat len)] 7)) (T7.setTop (mkF m 3 #[.val (.ref b), .val (.int (Int32.ofNat (o + i) + 1)), .val (.ref d), .val (.int (Int32.ofNat (q + i) + 1)), .val (.int (Int32.ofNat len)), .val (.int (Int32.ofNat i + 1)), .val (.int (cv A (o + i)))] [])) := c8.trans (by
        refine iincV X7.here hexec rfl 1 (hb hbytes d32) (by decide) rfl rfl ?_
        refine iincV X7.here hexec rfl 1 (hb hbytes d35) (by decide) rfl rfl ?_
        refine iincV X7.here hexec rfl 1 (hb hbytes d38) (by decide) rfl rfl ?_
        refine XS.goto X7.here hexec rfl (pc0 := 41) rfl (hb hbytes d41) (by decide) rfl ?_
        exact Steps.refl _)
      have c10 : Steps p.tables e below (s₁.setTop (entryFrame m #[.ref b, .int (Int32.ofNat o), .ref d, .int (Int32.ofNat q), .int (Int32.ofNat len)] 7)) (T7.setTop (mkF m 3 #[.val (.ref b), .val (.int (Int32.ofNat (o + (i + 1)))), .val (.ref d), .val (.int (Int32.ofNat (q + (i + 1)))), .val (.int (Int32.ofNat len)), .val (.int (Int32.ofNat (i + 1))), .val (.int (cv A (o + i)))] [])) := by
        have := c9
        rw [succ32, succ32, succ32] at this
        exact this
      exact ih (i + 1) (by omega) _ (Or.inr ⟨_, rfl, rfl⟩) T7 _ (by rw [copyLocs_step, ← List.append_assoc]; exact X7) (pl.trans p7) (fl.step (by omega) hlt (by simp)) c10
  obtain ⟨T9, B9, z9, X9, p9, f9, g9⟩ := loop len 0 (by omega) .unset (Or.inl rfl) s₁ B (by simpa [copyLocs] using X0) ⟨hB0.1, fun _ _ => rfl, rfl⟩ (Laid.zero _ _ _) c2
  have c11 : Steps p.tables e below (s₁.setTop (entryFrame m #[.ref b, .int (Int32.ofNat o), .ref d, .int (Int32.ofNat q), .int (Int32.ofNat len)] 7)) (T9.setTop (mkF m 46 #[.val (.ref b), .val (.int (Int32.ofNat (o + len))), .val (.ref d), .val (.int (Int32.ofNat (q + len))), .val (.int (Int32.ofNat len)), .val (.int (Int32.ofNat len)), z9] [.int (Int32.ofNat len)])) := g9.trans (by
    refine XS.iload X9.here hexec rfl (hb hbytes d3) rfl ?_
    refine XS.iload X9.here hexec rfl (hb hbytes d5) rfl ?_
    refine XS.icmpYes X9.here hexec rfl (pc0 := 7) rfl (hb hbytes d7) rfl (ii_ge_t (nlt32 (by omega) (Nat.le_refl _))) (by decide) rfl ?_
    refine XS.iload X9.here hexec rfl (hb hbytes d44) rfl ?_
    exact Steps.refl _)
  exact ⟨T9, some (.int (Int32.ofNat len)), _, _, _, X9, by simp, rfl, rfl, (fun h => by cases h), ⟨rfl, B9, p9.from hh0, f9⟩, fun fs hl => c11.trans (X9.ireturnOut hexec hret rfl (Or.inl rfl) (hb hbytes d46) hl)⟩
end Cmp5
namespace Cmp3
def yN : MethodName := ⟨"java/lang/StringUTF16", "compress", "([CII)[B"⟩
abbrev yB : ByteArray := jdk_52_method_16_code
theorem d0 : decode yB 0 = .ok (.iload_n 2, 1) := by decide +kernel
theorem d1 : decode yB 1 = .ok (.newarray .byte, 2) := by decide +kernel
theorem d3 : decode yB 3 = .ok (.astore_n 3, 1) := by decide +kernel
theorem d4 : decode yB 4 = .ok (.aload_n 0, 1) := by decide +kernel
theorem d5 : decode yB 5 = .ok (.iload_n 1, 1) := by decide +kernel
theorem d6 : decode yB 6 = .ok (.aload_n 3, 1) := by decide +kernel
theorem d7 : decode yB 7 = .ok (.iconst 0, 1) := by decide +kernel
theorem d8 : decode yB 8 = .ok (.iload_n 2, 1) := by decide +kernel
theorem d9 : decode yB 9 = .ok (.invokestatic 115, 3) := by decide +kernel
theorem d12 : decode yB 12 = .ok (.istore 4, 2) := by decide +kernel
theorem d14 : decode yB 14 = .ok (.iload 4, 2) := by decide +kernel
theorem d16 : decode yB 16 = .ok (.iload_n 2, 1) := by decide +kernel
theorem d17 : decode yB 17 = .ok (.if_icmp (.eq) 40, 3) := by decide +kernel
theorem d57 : decode yB 57 = .ok (.aload_n 3, 1) := by decide +kernel
theorem d58 : decode yB 58 = .ok (.areturn, 1) := by decide +kernel
def site : List Cond := [.arrayClass .byte, Cmp5.tab] ++ staticW U16 115 Cmp5.yN
def tab : Cond := tabOf yN yB 6 (some (.array .byte)) site
def P (b : Addr) (A : Cell) (o len : Nat) (args : Array Value) (s : State) : Prop := args = #[.ref b, .int (Int32.ofNat o), .int (Int32.ofNat len)] ∧ Ch b A s ∧ o + len ≤ A.slots.size ∧ len ≤ 536870912 ∧ ∀ i, i < len → ¬ 255 < cv A (o + i)
def E (b : Addr) (A : Cell) (o len : Nat) (r : Option Value) (s u : State) : Prop := NewArr .byte "[B" len (fun j => .int (lo8 (cv A (o + j)))) r s u ∧ u.heap.size = s.heap.size + 1
/-- no char of the range above 255: a new byte[] of their low bytes -/
theorem law (l : Launch) (b : Addr) (A : Cell) (o len : Nat) : Law l yN 3 3 1 18 yB 6 (some (.array .byte)) site (P b A o len) (E b A o len) [] 1 len := by
  refine Law.of_walk (plainFor_of_name (by decide +kernel)) (by decide +kernel) (by decide +kernel) (by decide) (fun _ _ h => by rw [h.1]; rfl) (fun _ U U' hal hh h => ⟨h.1, h.2.1.mv hal hh, h.2.2⟩) (fun r U U' V V' h1 hal h2 h => ⟨NewArr.mv r U U' V V' h1 hal h2 h.1, by rw [h1, h2]; exact h.2⟩) ?_
  intro p e s m args below meth c s₁ X0 hexec hbytes hml hret hlk hnm hown hh0 W hP
  obtain ⟨rfl, hA, l1, l2, hp⟩ := hP
  have a31 := hA.1.2.2.2
  have c1 : Steps p.tables e below (s₁.setTop (entryFrame m #[.ref b, .int (Int32.ofNat o), .int (Int32.ofNat len)] 6)) (s₁.setTop (mkF m 0 #[.val (.ref b), .val (.int (Int32.ofNat o)), .val (.int (Int32.ofNat len)), .unset, .unset, .unset] [])) := entry rfl
  have c2 : Steps p.tables e below (s₁.setTop (entryFrame m #[.ref b, .int (Int32.ofNat o), .int (Int32.ofNat len)] 6)) (s₁.setTop (mkF m 1 #[.val (.ref b), .val (.int (Int32.ofNat o)), .val (.int (Int32.ofNat len)), .unset, .unset, .unset] [.int (Int32.ofNat len)])) := c1.trans (by
    refine XS.iloadN X0.here hexec rfl (hb hbytes d0) rfl ?_
    exact Steps.refl _)
  obtain ⟨T3, B3, X3, ba3, bs3, bv3, bh3, bf3, st3⟩ := X0.anew hexec (atype := .byte) (wk W (.arrayClass .byte)) rfl (by show len * 1 ≤ _; omega) (by omega) (g := (mkF m 1 #[.val (.ref b), .val (.int (Int32.ofNat o)), .val (.int (Int32.ofNat len)), .unset, .unset, .unset] [.int (Int32.ofNat len)])) rfl (hb hbytes d1) (rest := []) rfl (Nat.le_refl _) (by show 0 + len ≤ len; omega)
  rw [hh0] at ba3 st3
  have kp3 : XT.Kept s T3 := (XT.Kept.of_eq hh0).push bh3
  have hA3 := hA.keep X3.warmed.alike (kp3 _ _ hA.1.1)
  have hne : b ≠ s.heap.size := hA.1.ne
  have c4 : Steps p.tables e below (s₁.setTop (entryFrame m #[.ref b, .int (Int32.ofNat o), .int (Int32.ofNat len)] 6)) (T3.setTop (mkF m 3 #[.val (.ref b), .val (.int (Int32.ofNat o)), .val (.int (Int32.ofNat len)), .unset, .unset, .unset] [.ref s.heap.size])) := c2.trans (st3 _ (Steps.refl _))
  have c5 : Steps p.tables e below (s₁.setTop (entryFrame m #[.ref b, .int (Int32.ofNat o), .int (Int32.ofNat len)] 6)) (T3.setTop (mkF m 9 #[.val (.ref b), .val (.int (Int32.ofNat o)), .val (.int (Int32.ofNat len)), .val (.ref s.heap.size), .unset, .unset] [.int (Int32.ofNat len), .int 0, .ref s.heap.size, .int (Int32.ofNat o), .ref b])) := c4.trans (by
    refine XS.astoreN X3.here hexec rfl (hb hbytes d3) rfl rfl rfl ?_
    refine XS.aloadN X3.here hexec rfl (hb hbytes d4) rfl rfl ?_
    refine XS.iloadN X3.here hexec rfl (hb hbytes d5) rfl ?_
    refine XS.aloadN X3.here hexec rfl (hb hbytes d6) rfl rfl ?_
    refine iconstV X3.here hexec rfl 0 (hb hbytes d7) (by decide) ?_
    refine XS.iloadN X3.here hexec rfl (hb hbytes d8) rfl ?_
    exact Steps.refl _)
  obtain ⟨v6, T6, X6, E6, g6⟩ := X3.callS hexec (Cmp5.law l b A s.heap.size B3 o 0 len) hown (wks W (staticW U16 115 Cmp5.yN)) (wk W Cmp5.tab) (W := 0) (Nat.le_of_ble_eq_true rfl) (Nat.le_of_ble_eq_true rfl) (Nat.le_refl _) (by show 0 + len + 0 ≤ len; omega) (g := (mkF m 9 #[.val (.ref b), .val (.int (Int32.ofNat o)), .val (.int (Int32.ofNat len)), .val (.ref s.heap.size), .unset, .unset] [.int (Int32.ofNat len), .int (Int32.ofNat 0), .ref s.heap.size, .int (Int32.ofNat o), .ref b])) rfl (by rw [hml]; rfl) c5 (argsL := [.ref b, .int (Int32.ofNat o), .ref s.heap.size, .int (Int32.ofNat 0), .int (Int32.ofNat len)]) (rest := []) rfl rfl (by show 2 * 0 + 0 ≤ _; decide) (hb hbytes d9) (⟨rfl, hA3, ba3, hne, l1, by rw [bs3]; simp, hp⟩)
  obtain ⟨rfl, B6, p6, f6⟩ := E6
  have c7 : Steps p.tables e below (s₁.setTop (entryFrame m #[.ref b, .int (Int32.ofNat o), .int (Int32.ofNat len)] 6)) (T6.setTop (mkF m 12 #[.val (.ref b), .val (.int (Int32.ofNat o)), .val (.int (Int32.ofNat len)), .val (.ref s.heap.size), .unset, .unset] [.int (Int32.ofNat len)])) := g6
  have c8 : Steps p.tables e below (s₁.setTop (entryFrame m #[.ref b, .int (Int32.ofNat o), .int (Int32.ofNat len)] 6)) (T6.setTop (mkF m 58 #[.val (.ref b), .val (.int (Int32.ofNat o)), .val (.int (Int32.ofNat len)), .val (.ref s.heap.size), .val (.int (Int32.ofNat len)), .unset] [.ref s.heap.size])) := c7.trans (by
    refine XS.istore X6.here hexec rfl (hb hbytes d12) rfl rfl ?_
    refine XS.iload X6.here hexec rfl (hb hbytes d14) rfl ?_
    refine XS.iloadN X6.here hexec rfl (hb hbytes d16) rfl ?_
    refine XS.icmpYes X6.here hexec rfl (pc0 := 17) rfl (hb hbytes d17) rfl (ii_eq_t rfl) (by decide) rfl ?_
    refine XS.aloadN X6.here hexec rfl (hb hbytes d57) rfl rfl ?_
    exact Steps.refl _)
  have X8 := X6.wide (L' := []) (cells' := 1) (slots' := len) (fun x hx hlt => by
    simp only [List.nil_append, copyLocs, List.mem_map, List.mem_range] at hx
    obtain ⟨i, -, rfl⟩ := hx
    exact absurd hlt (Nat.lt_irrefl _)) (Nat.le_refl _) (by omega)
  exact ⟨T6, some (.ref s.heap.size), _, _, _, X8, rfl, rfl, rfl, (fun h => by cases h), ⟨⟨rfl, B6, ba3.like (X3.warmed.alike.symm.trans X6.warmed.alike) p6.1 f6.1 f6.2.1 f6.2.2.1, f6.2.1.trans bv3, by rw [X6.warmed.alike.findClass, f6.1]; exact bf3, by rw [f6.2.2.1, bs3]; simp, fun j hj => by rw [f6.2.2.2 j, if_pos (by omega)]; rfl, kp3.put p6 (Nat.le_refl _)⟩, by rw [p6.2.2, bh3, hh0]; simp⟩, fun fs hl => c8.trans (X8.areturnOut hexec rfl hret rfl (hb hbytes d58) hl)⟩
end Cmp3
namespace CodL
def yN : MethodName := ⟨"java/lang/StringUTF16", "coderFromArrayLen", "([BI)B"⟩
abbrev yB : ByteArray := jdk_52_method_15_code
theorem d0 : decode yB 0 = .ok (.iload_n 1, 1) := by decide +kernel
theorem d1 : decode yB 1 = .ok (.aload_n 0, 1) := by decide +kernel
theorem d2 : decode yB 2 = .ok (.arraylength, 1) := by decide +kernel
theorem d3 : decode yB 3 = .ok (.isub, 1) := by decide +kernel
theorem d4 : decode yB 4 = .ok (.bipush 31, 2) := by decide +kernel
theorem d6 : decode yB 6 = .ok (.iushr, 1) := by decide +kernel
theorem d7 : decode yB 7 = .ok (.i2b, 1) := by decide +kernel
theorem d8 : decode yB 8 = .ok (.ireturn, 1) := by decide +kernel
def site : List Cond := []
def tab : Cond := tabOf yN yB 2 (some .byte) site
def P (d : Addr) (B : Cell) (args : Array Value) (s : State) : Prop := args = #[.ref d, .int (Int32.ofNat B.slots.size)] ∧ Arr .byte d B s
def E (r : Option Value) (s u : State) : Prop := XT.PureE (some (.int 0)) r s u
/-- an array as long as the number of chars: LATIN1 -/
theorem law (l : Launch) (d : Addr) (B : Cell) : Law l yN 2 2 0 0 yB 2 (some .byte) site (P d B) E [] 0 0 := by
  refine Law.of_walk (plainFor_of_name (by decide +kernel)) (by decide +kernel) (by decide +kernel) (by decide) (fun _ _ h => by rw [h.1]; rfl) (fun _ U U' hal hh h => ⟨h.1, h.2.mv hal hh⟩) (fun r U U' V V' h1 hal h2 h => XT.PureE.mv r U U' V V' h1 hal h2 h) ?_
  intro p e s m args below meth c s₁ X0 hexec hbytes hml hret hlk hnm hown hh0 W hP
  obtain ⟨rfl, hB⟩ := hP
  have hB0 := hB.mv X0.warmed.alike hh0
  have c1 : Steps p.tables e below (s₁.setTop (entryFrame m #[.ref d, .int (Int32.ofNat B.slots.size)] 2)) (s₁.setTop (mkF m 0 #[.val (.ref d), .val (.int (Int32.ofNat B.slots.size))] [])) := entry rfl
  have c2 : Steps p.tables e below (s₁.setTop (entryFrame m #[.ref d, .int (Int32.ofNat B.slots.size)] 2)) (s₁.setTop (mkF m 2 #[.val (.ref d), .val (.int (Int32.ofNat B.slots.size))] [.ref d, .int (Int32.ofNat B.slots.size)])) := c1.trans (by
    refine XS.iloadN X0.here hexec rfl (hb hbytes d0) rfl ?_
    refine XS.aloadN X0.here hexec rfl (hb hbytes d1) rfl rfl ?_
    exact Steps.refl _)
  have c3 : Steps p.tables e below (s₁.setTop (entryFrame m #[.ref d, .int (Int32.ofNat B.slots.size)] 2)) (s₁.setTop (mkF m 8 #[.val (.ref d), .val (.int (Int32.ofNat B.slots.size))] [.int (lo8 (ushr (Int32.ofNat B.slots.size - Int32.ofNat B.slots.size) 31))])) := c2.trans (by
    refine X0.alen hexec hB0 rfl rfl (hb hbytes d2) ?_
    refine XS.isub X0.here hexec rfl (hb hbytes d3) rfl ?_
    refine bipushV X0.here hexec rfl 31 (hb hbytes d4) (by decide) ?_
    refine iushr X0.here hexec rfl (hb hbytes d6) rfl ?_
    refine i2b X0.here hexec rfl (hb hbytes d7) rfl ?_
    exact Steps.refl _)
  have e0 : lo8 (ushr (Int32.ofNat B.slots.size - Int32.ofNat B.slots.size) 31) = 0 := by rw [Int32.sub_self]; decide
  rw [e0] at c3
  exact ⟨s₁, some (.int 0), _, _, _, X0, rfl, rfl, rfl, (fun h => by cases h), ⟨rfl, hh0⟩, fun fs hl => c3.trans (X0.ireturnOut hexec hret rfl (Or.inr (Or.inr (Or.inl rfl))) (hb hbytes d8) hl)⟩
end CodL
/-- the String at a is Latin-1 over a new byte[] (the heap's one new cell): the low bytes of the len chars of A from o on; every cell but a is kept -/
def Got (a : Addr) (D : Cell) (fV fC : Field) (A : Cell) (o len : Nat) (r : Option Value) (s u : State) : Prop := r = none ∧ ∃ D' V : Cell, Blank "java/lang/String" a D' u ∧ Same D D' [fV.slot, fC.slot] ∧ D'.slots[fV.slot]? = some (.ref s.heap.size) ∧ D'.slots[fC.slot]? = some (.int 0) ∧ Arr .byte s.heap.size V u ∧ V.vm = .none ∧ u.vm.findClass "[B" = some V.cls ∧ V.slots.size = len ∧ (∀ j, j < len → V.slots[j]? = some (.int (lo8 (cv A (o + j))))) ∧ (∀ (y : Addr) (c : Cell), y ≠ a → s.heap[y]? = some c → u.heap[y]? = some c) ∧ u.heap.size = s.heap.size + 1
theorem Got.mv {a : Addr} {D A : Cell} {fV fC : Field} {o len : Nat} : ∀ r (U U' V V' : State), U'.heap = U.heap → V.vm.Alike V'.vm → V'.heap = V.heap → Got a D fV fC A o len r U V → Got a D fV fC A o len r U' V' :=
  fun r U U' V V' h1 hal h2 ⟨e0, D', X, a1, a2, a3, a4, a5, a6, a7, a8, a9, a10, a11⟩ => ⟨e0, D', X, a1.mv hal h2, a2, by rw [h1]; exact a3, a4, by rw [h1]; exact a5.mv hal h2, a6, by rw [hal.findClass]; exact a7, a8, a9, by rw [h1, h2]; exact a10, by rw [h1, h2]; exact a11⟩
namespace New4
def yN : MethodName := ⟨"java/lang/String", "<init>", "([CIILjava/lang/Void;)V"⟩
abbrev yB : ByteArray := jdk_42_method_149_code
theorem d0 : decode yB 0 = .ok (.aload_n 0, 1) := by decide +kernel
theorem d1 : decode yB 1 = .ok (.invokespecial 1, 3) := by decide +kernel
theorem d4 : decode yB 4 = .ok (.iload_n 3, 1) := by decide +kernel
theorem d5 : decode yB 5 = .ok (.ifCond (.ne) 22, 3) := by decide +kernel
theorem d27 : decode yB 27 = .ok (.getstatic 38, 3) := by decide +kernel
theorem d30 : decode yB 30 = .ok (.ifCond (.eq) 28, 3) := by decide +kernel
theorem d33 : decode yB 33 = .ok (.aload_n 1, 1) := by decide +kernel
theorem d34 : decode yB 34 = .ok (.iload_n 2, 1) := by decide +kernel
theorem d35 : decode yB 35 = .ok (.iload_n 3, 1) := by decide +kernel
theorem d36 : decode yB 36 = .ok (.invokestatic 177, 3) := by decide +kernel
theorem d39 : decode yB 39 = .ok (.astore 5, 2) := by decide +kernel
theorem d41 : decode yB 41 = .ok (.aload_n 0, 1) := by decide +kernel
theorem d42 : decode yB 42 = .ok (.aload 5, 2) := by decide +kernel
theorem d44 : decode yB 44 = .ok (.iload_n 3, 1) := by decide +kernel
theorem d45 : decode yB 45 = .ok (.invokestatic 47, 3) := by decide +kernel
theorem d48 : decode yB 48 = .ok (.putfield 15, 3) := by decide +kernel
theorem d51 : decode yB 51 = .ok (.aload_n 0, 1) := by decide +kernel
theorem d52 : decode yB 52 = .ok (.aload 5, 2) := by decide +kernel
theorem d54 : decode yB 54 = .ok (.putfield 9, 3) := by decide +kernel
theorem d57 : decode yB 57 = .ok (.return_, 1) := by decide +kernel
def site : List Cond := [.fieldLink "java/lang/String" 38 "java/lang/String" "COMPACT_STRINGS" "Z", Cmp3.tab, CodL.tab, .laysFinal "java/lang/String" "java/lang/String" "value" "[B", .fieldLink "java/lang/String" 9 "java/lang/String" "value" "[B", .laysFinal "java/lang/String" "java/lang/String" "coder" "B", .fieldLink "java/lang/String" 15 "java/lang/String" "coder" "B"] ++ objW "java/lang/String" 1 ++ staticW "java/lang/String" 177 Cmp3.yN ++ staticW "java/lang/String" 47 CodL.yN
def tab : Cond := tabOf yN yB 6 none site
def P (a : Addr) (D : Cell) (fV fC : Field) (b : Addr) (A : Cell) (z : Int32) (o len : Nat) (args : Array Value) (s : State) : Prop := args = #[.ref a, .ref b, .int (Int32.ofNat o), .int (Int32.ofNat len), .null] ∧ Blank "java/lang/String" a D s ∧ Found "java/lang/String" "value" "[B" fV s ∧ Found "java/lang/String" "coder" "B" fC s ∧ Ch b A s ∧ StaticIs s "java/lang/String" "COMPACT_STRINGS" "Z" (.int z) ∧ ¬ z = 0 ∧ 0 < len ∧ o + len ≤ A.slots.size ∧ len ≤ 536870912 ∧ ∀ i, i < len → ¬ 255 < cv A (o + i)
def E (a : Addr) (D : Cell) (fV fC : Field) (A : Cell) (o len : Nat) (r : Option Value) (s u : State) : Prop := Got a D fV fC A o len r s u
/-- len > 0, no char of the range above 255: a Latin-1 String of their low bytes -/
theorem law (l : Launch) (a : Addr) (D : Cell) (fV fC : Field) (b : Addr) (A : Cell) (z : Int32) (o len : Nat) : Law l yN 5 4 2 35 yB 6 none site (P a D fV fC b A z o len) (E a D fV fC A o len) [⟨a, fC.slot⟩, ⟨a, fV.slot⟩] 1 len := by
  refine Law.of_walk (plainFor_of_name (by decide +kernel)) (by decide +kernel) (by decide +kernel) (by decide) (fun _ _ h => by rw [h.1]; rfl) (fun _ U U' hal hh h => ⟨h.1, h.2.1.mv hal hh, h.2.2.1.al hal, h.2.2.2.1.al hal, h.2.2.2.2.1.mv hal hh, h.2.2.2.2.2.1.there hal hh, h.2.2.2.2.2.2⟩) (fun r U U' V V' h1 hal h2 h => Got.mv r U U' V V' h1 hal h2 h) ?_
  intro p e s m args below meth c s₁ X0 hexec hbytes hml hret hlk hnm hown hh0 W hP
  obtain ⟨rfl, hB, f1, f2, hA, s1, hz, l0, l1, l2, hp⟩ := hP
  have a31 := hA.1.2.2.2
  have c1 : Steps p.tables e below (s₁.setTop (entryFrame m #[.ref a, .ref b, .int (Int32.ofNat o), .int (Int32.ofNat len), .null] 6)) (s₁.setTop (mkF m 0 #[.val (.ref a), .val (.ref b), .val (.int (Int32.ofNat o)), .val (.int (Int32.ofNat len)), .val .null, .unset] [])) := entry rfl
  have c2 : Steps p.tables e below (s₁.setTop (entryFrame m #[.ref a, .ref b, .int (Int32.ofNat o), .int (Int32.ofNat len), .null] 6)) (s₁.setTop (mkF m 1 #[.val (.ref a), .val (.ref b), .val (.int (Int32.ofNat o)), .val (.int (Int32.ofNat len)), .val .null, .unset] [.ref a])) := c1.trans (by
    refine XS.aloadN X0.here hexec rfl (hb hbytes d0) rfl rfl ?_
    exact Steps.refl _)
  obtain ⟨T3, X3, q3, st3⟩ := X0.oinit hexec hown (wks W (objW "java/lang/String" 1)) (g := (mkF m 1 #[.val (.ref a), .val (.ref b), .val (.int (Int32.ofNat o)), .val (.int (Int32.ofNat len)), .val .null, .unset] [.ref a])) rfl (by rw [hml]; rfl) (rest := []) rfl (hb hbytes d1) (W := 0) (by show 2 * 0 + 0 ≤ _; decide) (Nat.le_of_ble_eq_true rfl) (Nat.le_of_ble_eq_true rfl)
  have hh3 := q3.trans hh0
  have c4 : Steps p.tables e below (s₁.setTop (entryFrame m #[.ref a, .ref b, .int (Int32.ofNat o), .int (Int32.ofNat len), .null] 6)) (T3.setTop (mkF m 27 #[.val (.ref a), .val (.ref b), .val (.int (Int32.ofNat o)), .val (.int (Int32.ofNat len)), .val .null, .unset] [])) := (c2.trans (st3 _ (Steps.refl _))).trans (by
    refine XS.iloadN X3.here hexec rfl (hb hbytes d4) rfl ?_
    refine XS.ifYes X3.here hexec rfl (pc0 := 5) rfl (hb hbytes d5) rfl (i0_ne_t (nz32 (by omega) l0)) (by decide) rfl ?_
    exact Steps.refl _)
  obtain ⟨T5, X5, q5, st5⟩ := X3.sget hexec hown (wk W (.fieldLink "java/lang/String" 38 "java/lang/String" "COMPACT_STRINGS" "Z")) s1 (fun _ _ h => by rw [hh3]; exact h) (g := (mkF m 27 #[.val (.ref a), .val (.ref b), .val (.int (Int32.ofNat o)), .val (.int (Int32.ofNat len)), .val .null, .unset] [])) rfl (hb hbytes d27)
  have hh5 := q5.trans hh3
  have c6 : Steps p.tables e below (s₁.setTop (entryFrame m #[.ref a, .ref b, .int (Int32.ofNat o), .int (Int32.ofNat len), .null] 6)) (T5.setTop (mkF m 30 #[.val (.ref a), .val (.ref b), .val (.int (Int32.ofNat o)), .val (.int (Int32.ofNat len)), .val .null, .unset] [.int z])) := c4.trans (st5 _ (Steps.refl _))
  have c7 : Steps p.tables e below (s₁.setTop (entryFrame m #[.ref a, .ref b, .int (Int32.ofNat o), .int (Int32.ofNat len), .null] 6)) (T5.setTop (mkF m 36 #[.val (.ref a), .val (.ref b), .val (.int (Int32.ofNat o)), .val (.int (Int32.ofNat len)), .val .null, .unset] [.int (Int32.ofNat len), .int (Int32.ofNat o), .ref b])) := c6.trans (by
    refine XS.ifNo X5.here hexec rfl (hb hbytes d30) rfl (i0_eq_f hz) ?_
    refine XS.aloadN X5.here hexec rfl (hb hbytes d33) rfl rfl ?_
    refine XS.iloadN X5.here hexec rfl (hb hbytes d34) rfl ?_
    refine XS.iloadN X5.here hexec rfl (hb hbytes d35) rfl ?_
    exact Steps.refl _)
  obtain ⟨v8, T8, X8, E8, g8⟩ := X5.callS hexec (Cmp3.law l b A o len) hown (wks W (staticW "java/lang/String" 177 Cmp3.yN)) (wk W Cmp3.tab) (W := 0) (Nat.le_of_ble_eq_true rfl) (Nat.le_of_ble_eq_true rfl) (Nat.le_refl _) (by show 0 + len ≤ len; omega) (g := (mkF m 36 #[.val (.ref a), .val (.ref b), .val (.int (Int32.ofNat o)), .val (.int (Int32.ofNat len)), .val .null, .unset] [.int (Int32.ofNat len), .int (Int32.ofNat o), .ref b])) rfl (by rw [hml]; rfl) c7 (argsL := [.ref b, .int (Int32.ofNat o), .int (Int32.ofNat len)]) (rest := []) rfl rfl (by show 2 * 0 + 0 ≤ _; decide) (hb hbytes d36) (⟨rfl, hA.mv X5.warmed.alike hh5, l1, l2, hp⟩)
  obtain ⟨e8, z8⟩ := E8
  obtain ⟨rfl, N, n1, n2, n3, n4, n5, n6⟩ := NewArr.mv _ T5 s _ _ hh5.symm (Vm.Alike.refl _) rfl e8
  rw [hh5] at z8
  have hB1 := hB.keep X8.warmed.alike (n6 _ _ hB.1)
  have hne : s.heap.size ≠ a := (Nat.ne_of_lt (Array.getElem?_eq_some_iff.mp hB.1).1).symm
  have c9 : Steps p.tables e below (s₁.setTop (entryFrame m #[.ref a, .ref b, .int (Int32.ofNat o), .int (Int32.ofNat len), .null] 6)) (T8.setTop (mkF m 39 #[.val (.ref a), .val (.ref b), .val (.int (Int32.ofNat o)), .val (.int (Int32.ofNat len)), .val .null, .unset] [.ref s.heap.size])) := g8
  have c10 : Steps p.tables e below (s₁.setTop (entryFrame m #[.ref a, .ref b, .int (Int32.ofNat o), .int (Int32.ofNat len), .null] 6)) (T8.setTop (mkF m 45 #[.val (.ref a), .val (.ref b), .val (.int (Int32.ofNat o)), .val (.int (Int32.ofNat len)), .val .null, .val (.ref s.heap.size)] [.int (Int32.ofNat N.slots.size), .ref s.heap.size, .ref a])) := by
    have hc : Steps p.tables e below (s₁.setTop (entryFrame m #[.ref a, .ref b, .int (Int32.ofNat o), .int (Int32.ofNat len), .null] 6)) (T8.setTop (mkF m 45 #[.val (.ref a), .val (.ref b), .val (.int (Int32.ofNat o)), .val (.int (Int32.ofNat len)), .val .null, .val (.ref s.heap.size)] [.int (Int32.ofNat len), .ref s.heap.size, .ref a])) := c9.trans (by
      refine XS.astore X8.here hexec rfl (hb hbytes d39) rfl rfl rfl ?_
      refine XS.aloadN X8.here hexec rfl (hb hbytes d41) rfl rfl ?_
      refine XS.aload X8.here hexec rfl (hb hbytes d42) rfl rfl ?_
      refine XS.iloadN X8.here hexec rfl (hb hbytes d44) rfl ?_
      exact Steps.refl _)
    rw [n4]; exact hc
  obtain ⟨v11, T11, X11, E11, g11⟩ := X8.callS hexec (CodL.law l s.heap.size N) hown (wks W (staticW "java/lang/String" 47 CodL.yN)) (wk W CodL.tab) (W := 1) (Nat.le_of_ble_eq_true rfl) (Nat.le_of_ble_eq_true rfl) (Nat.le_refl _) (by show 0 + len + 0 ≤ len; omega) (g := (mkF m 45 #[.val (.ref a), .val (.ref b), .val (.int (Int32.ofNat o)), .val (.int (Int32.ofNat len)), .val .null, .val (.ref s.heap.size)] [.int (Int32.ofNat N.slots.size), .ref s.heap.size, .ref a])) rfl (by rw [hml]; rfl) c10 (argsL := [.ref s.heap.size, .int (Int32.ofNat N.slots.size)]) (rest := [.ref a]) rfl rfl (by show 2 * 0 + (1 + 0) ≤ _; decide) (hb hbytes d45) (⟨rfl, n1⟩)
  obtain ⟨rfl, q11⟩ := E11
  have hB11 := hB1.mv (X8.warmed.alike.symm.trans X11.warmed.alike) q11
  have c12 : Steps p.tables e below (s₁.setTop (entryFrame m #[.ref a, .ref b, .int (Int32.ofNat o), .int (Int32.ofNat len), .null] 6)) (T11.setTop (mkF m 48 #[.val (.ref a), .val (.ref b), .val (.int (Int32.ofNat o)), .val (.int (Int32.ofNat len)), .val .null, .val (.ref s.heap.size)] [.int 0, .ref a])) := g11
  obtain ⟨T13, X13, p13, bl13, sl13, st13⟩ := X11.finit hexec hown (wk W (.fieldLink "java/lang/String" 15 "java/lang/String" "coder" "B")) (Or.inr ⟨_, (wk W (.laysFinal "java/lang/String" "java/lang/String" "coder" "B"))⟩) (Or.inl ⟨rfl, hnm⟩) f2 (Or.inl rfl) hB11 (t := .byte) (by decide +kernel) rfl (g := (mkF m 48 #[.val (.ref a), .val (.ref b), .val (.int (Int32.ofNat o)), .val (.int (Int32.ofNat len)), .val .null, .val (.ref s.heap.size)] [.int 0, .ref a])) rfl (rest := []) rfl (hb hbytes d48)
  have c14 : Steps p.tables e below (s₁.setTop (entryFrame m #[.ref a, .ref b, .int (Int32.ofNat o), .int (Int32.ofNat len), .null] 6)) (T13.setTop (mkF m 54 #[.val (.ref a), .val (.ref b), .val (.int (Int32.ofNat o)), .val (.int (Int32.ofNat len)), .val .null, .val (.ref s.heap.size)] [.ref s.heap.size, .ref a])) := (c12.trans (st13 _ (Steps.refl _))).trans (by
    refine XS.aloadN X13.here hexec rfl (hb hbytes d51) rfl rfl ?_
    refine XS.aload X13.here hexec rfl (hb hbytes d52) rfl rfl ?_
    exact Steps.refl _)
  obtain ⟨T15, X15, p15, bl15, sl15, st15⟩ := X13.finit hexec hown (wk W (.fieldLink "java/lang/String" 9 "java/lang/String" "value" "[B")) (Or.inr ⟨_, (wk W (.laysFinal "java/lang/String" "java/lang/String" "value" "[B"))⟩) (Or.inl ⟨rfl, hnm⟩) f1 (Or.inl rfl) bl13 (t := (.array .byte)) (by decide +kernel) rfl (g := (mkF m 54 #[.val (.ref a), .val (.ref b), .val (.int (Int32.ofNat o)), .val (.int (Int32.ofNat len)), .val .null, .val (.ref s.heap.size)] [.ref s.heap.size, .ref a])) rfl (rest := []) rfl (hb hbytes d54)
  have c16 : Steps p.tables e below (s₁.setTop (entryFrame m #[.ref a, .ref b, .int (Int32.ofNat o), .int (Int32.ofNat len), .null] 6)) (T15.setTop (mkF m 57 #[.val (.ref a), .val (.ref b), .val (.int (Int32.ofNat o)), .val (.int (Int32.ofNat len)), .val .null, .val (.ref s.heap.size)] [])) := c14.trans (st15 _ (Steps.refl _))
  have ap := apart (Or.inr ⟨_, (wk W (.laysFinal "java/lang/String" "java/lang/String" "value" "[B"))⟩) (Or.inr ⟨_, (wk W (.laysFinal "java/lang/String" "java/lang/String" "coder" "B"))⟩) f1 f2 (t₁ := .array .byte) (t₂ := .byte) (by decide +kernel) (by decide +kernel) (by decide)
  have al := X8.warmed.alike.symm.trans X15.warmed.alike
  have n7 : T11.heap[s.heap.size]? = some N := by rw [q11]; exact n1.1
  exact ⟨T15, none, _, _, _, X15, by simp, rfl, by omega, (fun _ => rfl), ⟨rfl, _, N, bl15, ((Same.refl D _).set _ (by simp)).set _ (by simp), sl15, (Cell.slots_setSlot_ne _ ap).trans sl13, n1.keep al (p15.other hne (p13.other hne n7)), n2, by rw [al.findClass]; exact n3, n4, n5, fun y c h1 h2 => p15.other h1 (p13.other h1 (by rw [q11]; exact n6 y c h2)), by rw [p15.2.2, p13.2.2, q11]; exact z8⟩, fun fs hl => c16.trans (X15.returnOut hexec hret (hb hbytes d57) hl)⟩
end New4
namespace New1
def yN : MethodName := ⟨"java/lang/String", "<init>", "([C)V"⟩
abbrev yB : ByteArray := jdk_42_method_3_code
theorem d0 : decode yB 0 = .ok (.aload_n 0, 1) := by decide +kernel
theorem d1 : decode yB 1 = .ok (.aload_n 1, 1) := by decide +kernel
theorem d2 : decode yB 2 = .ok (.iconst 0, 1) := by decide +kernel
theorem d3 : decode yB 3 = .ok (.aload_n 1, 1) := by decide +kernel
theorem d4 : decode yB 4 = .ok (.arraylength, 1) := by decide +kernel
theorem d5 : decode yB 5 = .ok (.aconst_null, 1) := by decide +kernel
theorem d6 : decode yB 6 = .ok (.invokespecial 27, 3) := by decide +kernel
theorem d9 : decode yB 9 = .ok (.return_, 1) := by decide +kernel
def site : List Cond := [New4.tab] ++ initW "java/lang/String" 27 New4.yN
def tab : Cond := tabOf yN yB 2 none site
def P (a : Addr) (D : Cell) (fV fC : Field) (b : Addr) (A : Cell) (z : Int32) (args : Array Value) (s : State) : Prop := args = #[.ref a, .ref b] ∧ Blank "java/lang/String" a D s ∧ Found "java/lang/String" "value" "[B" fV s ∧ Found "java/lang/String" "coder" "B" fC s ∧ Ch b A s ∧ StaticIs s "java/lang/String" "COMPACT_STRINGS" "Z" (.int z) ∧ ¬ z = 0 ∧ 0 < A.slots.size ∧ A.slots.size ≤ 536870912 ∧ ∀ i, i < A.slots.size → ¬ 255 < cv A i
def E (a : Addr) (D : Cell) (fV fC : Field) (A : Cell) (r : Option Value) (s u : State) : Prop := Got a D fV fC A 0 A.slots.size r s u
/-- new String(chars), not empty, no char above 255: a Latin-1 String of their low bytes -/
theorem law (l : Launch) (a : Addr) (D : Cell) (fV fC : Field) (b : Addr) (A : Cell) (z : Int32) : Law l yN 2 1 3 52 yB 2 none site (P a D fV fC b A z) (E a D fV fC A) [⟨a, fC.slot⟩, ⟨a, fV.slot⟩] 1 A.slots.size := by
  refine Law.of_walk (plainFor_of_name (by decide +kernel)) (by decide +kernel) (by decide +kernel) (by decide) (fun _ _ h => by rw [h.1]; rfl) (fun _ U U' hal hh h => ⟨h.1, h.2.1.mv hal hh, h.2.2.1.al hal, h.2.2.2.1.al hal, h.2.2.2.2.1.mv hal hh, h.2.2.2.2.2.1.there hal hh, h.2.2.2.2.2.2⟩) (fun r U U' V V' h1 hal h2 h => Got.mv r U U' V V' h1 hal h2 h) ?_
  intro p e s m args below meth c s₁ X0 hexec hbytes hml hret hlk hnm hown hh0 W hP
  obtain ⟨rfl, hB, f1, f2, hA, s1, hz, l0, l2, hp⟩ := hP
  have c1 : Steps p.tables e below (s₁.setTop (entryFrame m #[.ref a, .ref b] 2)) (s₁.setTop (mkF m 0 #[.val (.ref a), .val (.ref b)] [])) := entry rfl
  have c2 : Steps p.tables e below (s₁.setTop (entryFrame m #[.ref a, .ref b] 2)) (s₁.setTop (mkF m 6 #[.val (.ref a), .val (.ref b)] [.null, .int (Int32.ofNat A.slots.size), .int 0, .ref b, .ref a])) := c1.trans (by
    refine XS.aloadN X0.here hexec rfl (hb hbytes d0) rfl rfl ?_
    refine XS.aloadN X0.here hexec rfl (hb hbytes d1) rfl rfl ?_
    refine iconstV X0.here hexec rfl 0 (hb hbytes d2) (by decide) ?_
    refine XS.aloadN X0.here hexec rfl (hb hbytes d3) rfl rfl ?_
    refine X0.alen hexec (hA.1.mv X0.warmed.alike hh0) rfl rfl (hb hbytes d4) ?_
    refine XS.aconstNull X0.here hexec rfl (hb hbytes d5) ?_
    exact Steps.refl _)
  obtain ⟨v3, T3, X3, E3, g3⟩ := X0.callN hexec (New4.law l a D fV fC b A z 0 A.slots.size) rfl hown (wks W (initW "java/lang/String" 27 New4.yN)) (W New4.tab (by simp only [site, List.mem_cons, List.mem_append, true_or, or_true])) (W := 0) (Nat.le_of_ble_eq_true rfl) (Nat.le_of_ble_eq_true rfl) (Nat.le_refl _) (by show 0 + A.slots.size ≤ A.slots.size; omega) (g := (mkF m 6 #[.val (.ref a), .val (.ref b)] [.null, .int (Int32.ofNat A.slots.size), .int (Int32.ofNat 0), .ref b, .ref a])) rfl (by rw [hml]; rfl) c2 (argsL := [.ref b, .int (Int32.ofNat 0), .int (Int32.ofNat A.slots.size), .null]) (rest := []) rfl rfl (by show 2 * 0 + 0 ≤ _; decide) (hb hbytes d6) (⟨rfl, hB.mv X0.warmed.alike hh0, f1.al X0.warmed.alike, f2.al X0.warmed.alike, hA.mv X0.warmed.alike hh0, s1.there X0.warmed.alike hh0, hz, l0, by omega, l2, fun i hi => by rw [Nat.zero_add]; exact hp i hi⟩)
  have e0 := Got.mv _ s₁ s _ _ hh0.symm (Vm.Alike.refl _) rfl E3
  obtain rfl := e0.1
  have c4 : Steps p.tables e below (s₁.setTop (entryFrame m #[.ref a, .ref b] 2)) (T3.setTop (mkF m 9 #[.val (.ref a), .val (.ref b)] [])) := g3
  exact ⟨T3, none, _, _, _, X3, by simp, rfl, by omega, (fun _ => rfl), e0, fun fs hl => c4.trans (X3.returnOut hexec hret (hb hbytes d9) hl)⟩
theorem pays {l : Launch} {R : Room} {p : Program} {e : Env} {below : List Frame} {s : State} {sargs : Array Value} {len W : Nat} (a : Addr) (D : Cell) (fV fC : Field) (b : Addr) (A : Cell) (z : Int32) (htab : tab.before sargs s = true) (hfr : 4 ≤ R.frames) (hlo : W + 65 ≤ R.locals) :
    Back l R p e below s sargs yN len W (fun A₁ a₁ => A₁.cells + 1 ≤ R.cells ∧ A₁.slots + A.slots.size ≤ R.slots ∧ P a D fV fC b A z a₁ A₁.U) (fun A₁ _ v₁ B₁ => E a D fV fC A v₁ A₁.U B₁.U ∧ B₁.locs = A₁.locs ++ [⟨a, fC.slot⟩, ⟨a, fV.slot⟩] ∧ B₁.cells = A₁.cells + 1 ∧ B₁.slots = A₁.slots + A.slots.size) :=
  (law l a D fV fC b A z).pays htab hfr (by omega)
end New1
/-- the byte, read back as charAt reads it, is the char -/
theorem lo8_mask {x : Int32} (h0 : ¬ x < 0) (h1 : ¬ 255 < x) : lo8 x &&& 255 = x := by
  have t : ∀ k : Fin 256, lo8 (Int32.ofNat k.val) &&& 255 = Int32.ofNat k.val := by decide +kernel
  rw [Int32.lt_iff_toInt_lt] at h0 h1
  have e0 : (0 : Int32).toInt = 0 := rfl
  have e1 : (255 : Int32).toInt = 255 := rfl
  obtain ⟨k, hk⟩ : ∃ k : Nat, x.toInt = k := ⟨x.toInt.toNat, by omega⟩
  have hx : x = Int32.ofNat k := Int32.toInt_inj.mp (by rw [hk, Int32.toInt_ofNat_small (by omega)])
  rw [hx]
  exact t ⟨k, by omega⟩
end StrChars
namespace StrChars.Road
open Jvm Sem ClassFile Op Lib Jvm.Stand Jvm.Free Jvm.Free.XT
open Jvm.Lib.Cold (StaticIs)
abbrev ST : String := "java/lang/String"
/-- every table word that New1's law asks, flat -/
abbrev words : List Jvm.Cond := [.code New1.yN New1.yB 2 none, .initialized ST, .methodLink ST 27 New4.yN, .instanceMethod New4.yN,
  .code New4.yN New4.yB 6 none, .fieldLink ST 38 ST "COMPACT_STRINGS" "Z", .laysFinal ST ST "value" "[B", .fieldLink ST 9 ST "value" "[B", .laysFinal ST ST "coder" "B", .fieldLink ST 15 ST "coder" "B",
  .methodLink ST 1 Lib.objectInit, .instanceMethod Lib.objectInit, .code Lib.objectInit ⟨#[0xb1]⟩ 1 none, .methodLink ST 177 Cmp3.yN, .static Cmp3.yN, .methodLink ST 47 CodL.yN, .static CodL.yN,
  .code Cmp3.yN Cmp3.yB 6 (some (.array .byte)), .initialized U16, .arrayClass .byte, .methodLink U16 115 Cmp5.yN, .static Cmp5.yN, .code Cmp5.yN Cmp5.yB 7 (some .int), .code CodL.yN CodL.yB 2 (some .byte)]
theorem tab_of {a : Array Value} {s : State} (h : ∀ w ∈ words, w.before a s = true) : New1.tab.before a s = true := by
  have h5 : Cmp5.tab.before a s = true := unparts (wk h (.code Cmp5.yN Cmp5.yB 7 (some .int))) (wks h (.initialized Cmp5.yN.cls :: Cmp5.site))
  have hc : CodL.tab.before a s = true := unparts (wk h (.code CodL.yN CodL.yB 2 (some .byte))) (wks h (.initialized CodL.yN.cls :: CodL.site))
  have q5 : ∀ w ∈ Cmp5.tab :: words, w.before a s = true := fun w hw => (List.mem_cons.mp hw).elim (fun e => e ▸ h5) (h w)
  have h3 : Cmp3.tab.before a s = true := unparts (wk q5 (.code Cmp3.yN Cmp3.yB 6 (some (.array .byte)))) (wks q5 (.initialized Cmp3.yN.cls :: Cmp3.site))
  have q3 : ∀ w ∈ Cmp3.tab :: CodL.tab :: words, w.before a s = true := fun w hw => (List.mem_cons.mp hw).elim (fun e => e ▸ h3) fun hw => (List.mem_cons.mp hw).elim (fun e => e ▸ hc) (h w)
  have h4 : New4.tab.before a s = true := unparts (wk q3 (.code New4.yN New4.yB 6 none)) (wks q3 (.initialized New4.yN.cls :: New4.site))
  have q4 : ∀ w ∈ New4.tab :: words, w.before a s = true := fun w hw => (List.mem_cons.mp hw).elim (fun e => e ▸ h4) (h w)
  exact unparts (wk q4 (.code New1.yN New1.yB 2 none)) (wks q4 (.initialized New1.yN.cls :: New1.site))
/-- the words ride from the start Z to the walk's own state -/
theorem moved {Z s : State} {a0 args : Array Value} (hZ : Z.Warmed39 s.vm) (hw : ∀ d ∈ words, d.before a0 Z = true) : ∀ d ∈ words, d.before args s = true := fun d hd => by
  have q := hw d hd
  have t : ∀ d ∈ words, d = .arrayClass .byte ∨ (d.onTables && d.keepsFace) = true := by decide +kernel
  rcases t d hd with rfl | t
  · exact RoadKit.mvA hZ q
  · exact RoadKit.mv hZ q t
/-- WHAT COMES BACK, over the tables of the start Z: h the heap at the call, h' behind it -/
def Q (Z : State) (x : Addr) (A : Cell) (h : Heap) (v : Option Value) (h' : Heap) (L : List Loc) : Prop := v = none ∧ (∀ y ∈ L, y.base = x) ∧ RoadKit.Keep h h' [x] ∧ h'.size = h.size + 1 ∧ RoadKit.Exa Z h' x ST ∧ RoadKit.Fld Z h' x ST "value" "[B" (.ref h.size) ∧ RoadKit.Fld Z h' x ST "coder" "B" (.int 0) ∧
  (∃ V : Cell, RoadKit.Arr Z h' h.size V .byte ∧ V.vm = .none ∧ Z.vm.findClass "[B" = some V.cls ∧ V.slots.size = A.slots.size ∧ ∀ j, j < A.slots.size → V.slots[j]? = some (.int (lo8 (cv A j)))) ∧
  ∀ (O n d : String) (w : Value), RoadKit.Fld Z h x O n d w → RoadKit.slotOf Z O n d ≠ RoadKit.slotOf Z ST "value" "[B" → RoadKit.slotOf Z O n d ≠ RoadKit.slotOf Z ST "coder" "B" → RoadKit.Fld Z h' x O n d w
/-- **new String(chars) AT A CALL, IN THE ROAD'S FORM**: for specialBack behind newO: x the fresh String, b the char[] with the cell A -/
theorem back {p : Program} {l : Launch} {e : Env} {R : Room} {s : State} {args : Array Value} {below : List Frame} {len W : Nat} {Z : State} {a0 : Array Value} {h : Heap} (hZ : Z.Warmed39 s.vm) (hw : ∀ d ∈ words, d.before a0 Z = true) {kI : Nat} (wi : (Jvm.Cond.instantiable ST kI).before a0 Z = true)
    {x b : Addr} {A : Cell} {z : Int32} {v0 c0 : Value} (E : RoadKit.Exa Z h x ST) (V : RoadKit.Fld Z h x ST "value" "[B" v0) (C : RoadKit.Fld Z h x ST "coder" "B" c0) (K : RoadKit.Arr Z h b A .char) (hty : Typed .char A) (S : RoadKit.Sta Z h ST "COMPACT_STRINGS" "Z" (.int z)) (hz : ¬ z = 0)
    (l0 : 0 < A.slots.size) (l2 : A.slots.size ≤ 536870912) (hp : ∀ i, i < A.slots.size → ¬ 255 < cv A i) (hfr : 4 ≤ R.frames) (hlo : W + 65 ≤ R.locals) :
    Back l R p e below s args New1.yN len W (fun P a => a = #[.ref x, .ref b] ∧ P.U.heap = h ∧ P.cells + 1 ≤ R.cells ∧ P.slots + A.slots.size ≤ R.slots)
      (fun P _ v B => ∃ L, Q Z x A h v B.U.heap L ∧ B.locs = P.locs ++ L ∧ B.cells = P.cells + 1 ∧ B.slots = P.slots + A.slots.size) := by
  intro m meth c P g ig mk a X hg hsize hdg hW hn hp'
  obtain ⟨rfl, rfl, r1, r2⟩ := hp'
  have al : Z.vm.Alike P.U.vm := hZ.alike.trans X.warmed.alike
  obtain ⟨D, cfV, kV, iV, fV, hD, gV, stV, knV, obV, asV, slV⟩ := id V
  obtain ⟨D', cfC, kC, iC, fC, hD', gC, stC, -, -, asC, slC⟩ := id C
  cases hD.symm.trans hD'
  obtain ⟨D2, kD, e1, e2, e3, e4, e5⟩ := id E
  cases hD.symm.trans e1
  obtain ⟨c2, k2, i1, i2, i3, -⟩ := Cond.instantiable_spec wi
  cases e2.symm.trans i1
  cases e3.symm.trans i2
  obtain ⟨kU, u1, u2⟩ := al.2.2 _ _ e3
  have hB : Blank ST x D P.U := ⟨hD, ⟨knV, fun q hq => by rw [hq] at obV; cases obV⟩, by rw [al.findClass]; exact e2, kU, u1, by rw [u2]; exact i3, by rw [u2]; exact e5 i3⟩
  have F1 : Found ST "value" "[B" fV P.U := ⟨SBG.found_only al ⟨cfV, kV, iV, gV⟩, stV⟩
  have F2 : Found ST "coder" "B" fC P.U := ⟨SBG.found_only al ⟨cfC, kC, iC, gC⟩, stC⟩
  have hA : Ch b A P.U := ⟨⟨K.1, State.isArrayOf_alike al K.2.1, K.2.2, by omega⟩, hty⟩
  have hS : StaticIs P.U ST "COMPACT_STRINGS" "Z" (.int z) := by
    obtain ⟨cfS, iS, kS, fS, st, cS, t1, t2, t3, t4, t5, t6, t7⟩ := S
    exact StaticIs.there (s := { Z with heap := P.U.heap }) ⟨cfS, iS, kS, fS, st, cS, t1, t2, t3, t4, t5, (fun q => by rw [q] at t6; cases t6), t7⟩ al rfl
  obtain ⟨v, B, X', ⟨⟨hv, E', V', q1, q2, q3, q4, q5, q6, q7, q8, q9, q10, q11⟩, hl, hc, hs⟩, st⟩ := New1.pays x D fV fC b A z (tab_of (moved hZ hw)) hfr hlo m meth c P g ig mk _ X hg hsize hdg hW hn ⟨r1, r2, rfl, hB, F1, F2, hA, hS, hz, l0, l2, hp⟩
  have al' : Z.vm.Alike B.U.vm := hZ.alike.trans X'.warmed.alike
  have hsz : E'.slots.size = D.slots.size := by
    obtain ⟨-, -, -, kB, w1, w2, w3⟩ := q1
    obtain ⟨kB', y1, y2⟩ := al'.2.2 _ _ e3
    rw [q2.2.1] at w1
    cases w1.symm.trans y1
    rw [w3, e5 i3, y2]
  refine ⟨v, B, X', ⟨_, ⟨hv, ?_, ⟨by omega, fun y cy hy hn' => q10 y cy (by simpa using hn') hy, fun y cy hy => ?_⟩, q11, ⟨E', _, q1.1, by rw [q2.2.1]; exact e2, by rw [q2.2.1]; exact e3, by rw [q2.1]; exact obV, fun _ => by rw [hsz]; exact e5 i3⟩,
    ⟨E', cfV, kV, iV, fV, q1.1, gV, stV, by rw [q2.1]; exact knV, by rw [q2.1]; exact obV, by rw [q2.2.1]; exact asV, q3⟩, ⟨E', cfC, kC, iC, fC, q1.1, gC, stC, by rw [q2.1]; exact knV, by rw [q2.1]; exact obV, by rw [q2.2.1]; exact asC, q4⟩,
    ⟨V', ⟨q5.1, State.isArrayOf_alike al'.symm q5.2.1, q5.2.2.1⟩, q6, by rw [← al'.findClass]; exact q7, q8, fun j hj => by have := q9 j hj; rwa [Nat.zero_add] at this⟩, fun O n d w F n1 n2 => ?_⟩, hl, hc, hs⟩, st⟩
  · intro y hy
    simp only [List.mem_cons, List.not_mem_nil, or_false] at hy
    rcases hy with rfl | rfl <;> rfl
  · by_cases q : y = x
    · subst q
      cases hD.symm.trans hy
      exact ⟨E', q1.1, q2.2.1, q2.1, hsz⟩
    · exact ⟨cy, q10 y cy q hy, rfl, rfl, rfl⟩
  · obtain ⟨D3, cf, k, i, f, g1, g2, g3, g4, g5, g6, g7⟩ := F
    cases hD.symm.trans g1
    simp only [RoadKit.slotOf, g2, gV, gC, Option.map_some, Option.getD_some] at n1 n2
    exact ⟨E', cf, k, i, f, q1.1, g2, g3, by rw [q2.1]; exact g4, by rw [q2.1]; exact g5, by rw [q2.2.1]; exact g6, by rw [q2.2.2 f.slot (by simp [n1, n2])]; exact g7⟩
end StrChars.Road
namespace StrChars.Road
open Jvm Sem ClassFile Op Lib Jvm.Stand Jvm.Free Jvm.Free.XT
/-- WHAT COMES BACK, the byte[] as a list of values -/
def QA (Z : State) (x : Addr) (zn : Int32) (cs : List Int32) (h : Heap) (v : Option Value) (h' : Heap) (L : List Loc) : Prop := v = none ∧ (∀ y ∈ L, y.base = x) ∧ RoadKit.Keep h h' [x] ∧ h'.size = h.size + 1 ∧ RoadKit.Exa Z h' x ST ∧ RoadKit.Fld Z h' x ST "value" "[B" (.ref h.size) ∧ RoadKit.Fld Z h' x ST "coder" "B" (.int 0) ∧
  (∃ kb, Z.vm.findClass "[B" = some kb ∧ RoadKit.Arv Z h' h.size kb .byte zn (cs.map fun c => .int (lo8 c)) (.int 0)) ∧
  ∀ (O n d : String) (w : Value), RoadKit.Fld Z h x O n d w → RoadKit.slotOf Z O n d ≠ RoadKit.slotOf Z ST "value" "[B" → RoadKit.slotOf Z O n d ≠ RoadKit.slotOf Z ST "coder" "B" → RoadKit.Fld Z h' x O n d w
/-- **new String(chars) AT A CALL, THE ARRAYS AS LISTS**: the char[] at b holds cs, not empty, no char above 255 -/
theorem backArv {p : Program} {l : Launch} {e : Env} {R : Room} {s : State} {args : Array Value} {below : List Frame} {len W : Nat} {Z : State} {a0 : Array Value} {h : Heap} (hZ : Z.Warmed39 s.vm) (hw : ∀ d ∈ words, d.before a0 Z = true) {kI : Nat} (wi : (Jvm.Cond.instantiable ST kI).before a0 Z = true)
    {x b : Addr} {k : ClassId} {zn z : Int32} {cs : List Int32} {dv v0 c0 : Value} (E : RoadKit.Exa Z h x ST) (V : RoadKit.Fld Z h x ST "value" "[B" v0) (C : RoadKit.Fld Z h x ST "coder" "B" c0) (K : RoadKit.Arv Z h b k .char zn (cs.map Value.int) dv) (S : RoadKit.Sta Z h ST "COMPACT_STRINGS" "Z" (.int z)) (hz : ¬ z = 0)
    (hlen : zn.toNatClampNeg = cs.length) (h0 : 0 < cs.length) (hbig : cs.length ≤ 536870912) (hall : ∀ c ∈ cs, ¬ 255 < c) (hfr : 4 ≤ R.frames) (hlo : W + 65 ≤ R.locals) :
    Back l R p e below s args New1.yN len W (fun P a => a = #[.ref x, .ref b] ∧ P.U.heap = h ∧ P.cells + 1 ≤ R.cells ∧ P.slots + cs.length ≤ R.slots)
      (fun P _ v B => ∃ L, QA Z x zn cs h v B.U.heap L ∧ B.locs = P.locs ++ L ∧ B.cells = P.cells + 1 ∧ B.slots = P.slots + cs.length) := by
  obtain ⟨A, K1, K2, K3, K4, K5, K6⟩ := K
  have e : A.slots.size = cs.length := K3.trans hlen
  have hat : ∀ (i : Nat) (hi : i < cs.length), A.slots[i]? = some (.int cs[i]) := fun i hi => by rw [K5 i (by omega)]; simp [List.getD_eq_getElem?_getD, hi]
  have hcv : ∀ (i : Nat) (hi : i < cs.length), cv A i = cs[i] := fun i hi => by unfold cv; rw [hat i hi]
  have hty : Typed .char A := fun i v hv => by
    have hi : i < A.slots.size := (Array.getElem?_eq_some_iff.mp hv).1
    have q := K5 i hi
    rw [hv] at q
    rw [Option.some.inj q]
    exact K6 i hi
  refine Back.mono (back hZ hw wi E V C K1 hty S hz (by omega) (by omega) (fun i hi => by rw [hcv i (by omega)]; exact hall _ (List.getElem_mem _)) hfr hlo) (fun P a hp => ⟨hp.1, hp.2.1, hp.2.2.1, by rw [e]; exact hp.2.2.2⟩) (fun P a v B hp hq => ?_)
  obtain ⟨L, ⟨q1, q2, q3, q4, q5, q6, q7, ⟨V', v1, v2, v3, v4, v5⟩, q9⟩, hl, hc, hs⟩ := hq
  refine ⟨L, ⟨q1, q2, q3, q4, q5, q6, q7, ⟨V'.cls, v3, V', v1, rfl, by rw [v4, e, hlen], K4, fun i hi => ?_, fun i hi => ?_⟩, q9⟩, hl, hc, by rw [hs, e]⟩
  · have hi' : i < cs.length := by omega
    rw [v5 i (by omega), hcv i hi']; simp [List.getD_eq_getElem?_getD, hi']
  · have hi' : i < cs.length := by omega
    simp only [List.getD_eq_getElem?_getD, List.getElem?_map, List.getElem?_eq_getElem hi', Option.map_some, Option.getD_some]
    exact fits_lo8 _
end StrChars.Road
namespace StrChars.Road
open Jvm Sem ClassFile Op Lib Jvm.Stand Jvm.Free Jvm.Free.XT
/-- WHAT COMES BACK, in the writer's own shape -/
def QV (Z : State) (x : Addr) (N : Int32) (bs : List Int32) (h : Heap) (n0 : Nat) (v : Option Value) (h' : Heap) (L : List Loc) : Prop := v = none ∧ RoadKit.Fr n0 L ∧ RoadKit.Keep h h' [x] ∧ RoadKit.Exa Z h' x ST ∧ RoadKit.Fld Z h' x ST "coder" "B" (.int 0) ∧
  ∃ (t : Addr) (kb : ClassId), n0 ≤ t ∧ h.size ≤ t ∧ ¬ t = x ∧ RoadKit.Fld Z h' x ST "value" "[B" (.ref t) ∧ RoadKit.Arv Z h' t kb .byte N (bs.map Value.int) (.int 0)
/-- **new String(chars) AT A CALL, FOR THE WRITER**: a char[] of n known ints, each 0 to 255 -/
theorem backV {p : Program} {l : Launch} {e : Env} {R : Room} {s : State} {args : Array Value} {below : List Frame} {len W : Nat} {Z : State} {a0 : Array Value} {h : Heap} (hZ : Z.Warmed39 s.vm) (hw : ∀ d ∈ words, d.before a0 Z = true) {kI : Nat} (wi : (Jvm.Cond.instantiable ST kI).before a0 Z = true)
    {x b : Addr} {kC : ClassId} {cs bs : List Int32} {d v0 c0 : Value} {z N : Int32} {n n0 : Nat} (hx0 : n0 ≤ x) (hh0 : n0 ≤ h.size) (E : RoadKit.Exa Z h x ST) (V : RoadKit.Fld Z h x ST "value" "[B" v0) (C : RoadKit.Fld Z h x ST "coder" "B" c0) (K : RoadKit.Arv Z h b kC .char N (cs.map Value.int) d) (S : RoadKit.Sta Z h ST "COMPACT_STRINGS" "Z" (.int z)) (hz : ¬ z = 0)
    (hn : cs.length = n) (hN : N = Int32.ofNat n) (l0 : 0 < n) (l2 : n ≤ 4000) (hp : ∀ c ∈ cs, ¬ c < 0 ∧ ¬ (255 : Int32) < c) (hb : bs = cs.map (fun c => c.toInt8.toInt32)) (hfr : 4 ≤ R.frames) (hlo : W + 65 ≤ R.locals) :
    Back l R p e below s args (⟨"java/lang/String", "<init>", "([C)V"⟩ : MethodName) len W (fun P a => a = #[.ref x, .ref b] ∧ P.U.heap = h ∧ P.cells + 1 ≤ R.cells ∧ P.slots + n ≤ R.slots)
      (fun P _ v B => ∃ L, QV Z x N bs h n0 v B.U.heap L ∧ B.locs = P.locs ++ L ∧ B.cells = P.cells + 1 ∧ B.slots = P.slots + n) := by
  subst hn hN hb
  refine Back.mono (backArv hZ hw wi E V C K S hz (n32 (by omega)) l0 (by omega) (fun c hc => (hp c hc).2) hfr hlo) (fun P a hp => hp) (fun P a v B hp hq => ?_)
  obtain ⟨L, ⟨q1, q2, q3, q4, q5, q6, q7, ⟨kb, v1, v2⟩, q9⟩, hl, hc, hs⟩ := hq
  exact ⟨L, ⟨q1, fun y hy => by rw [q2 y hy]; exact hx0, q3, q5, q7, h.size, kb, hh0, Nat.le_refl _, Nat.ne_of_gt E.lt, q6, by rw [List.map_map]; exact v2⟩, hl, hc, hs⟩
end StrChars.Road
namespace StrChars
open Jvm Sem ClassFile Op Lib Jvm.Stand Jvm.Free.XT Jvm.Free.ALB Jvm.Free.JM Jvm.Free
open Jvm.Lib.Cold (StaticIs)
def hi8 (x : Int32) : Int32 := lo8 (x >>> ((8 : Int32) &&& 31))
/-- what StringUTF16.getChar makes of two bytes -/
def pairCh (u v : Int32) : Int32 := (((u &&& 255) <<< ((0 : Int32) &&& 31)) ||| ((v &&& 255) <<< ((8 : Int32) &&& 31))).toUInt32.toUInt16.toUInt32.toInt32
theorem lo8_and (x : Int32) : (lo8 x &&& 255).toBitVec.toNat = x.toBitVec.toNat % 256 := by
  have h : (lo8 x).toBitVec = (x.toBitVec.signExtend 8).signExtend 32 := by rw [lo8, Int8.toBitVec_toInt32, Int32.toBitVec_toInt8]
  rw [Int32.toBitVec_and, BitVec.toNat_and, h]
  have e : ((x.toBitVec.signExtend 8).signExtend 32).toNat % 256 = x.toBitVec.toNat % 256 := by
    rw [BitVec.toNat_signExtend]
    have hlt := x.toBitVec.isLt
    simp only [BitVec.toNat_setWidth, BitVec.toNat_signExtend]
    split <;> split <;> omega
  rw [← e]
  exact Nat.and_two_pow_sub_one_eq_mod _ 8
theorem pair_says {c : Int32} (h0 : ¬ c < 0) (h1 : ¬ 65535 < c) : pairCh (lo8 c) (hi8 c) = c := by
  rw [Int32.lt_iff_toInt_lt] at h0 h1
  have e0 : (0 : Int32).toInt = 0 := rfl
  have e1 : (65535 : Int32).toInt = 65535 := rfl
  have hc : c.toInt = c.toBitVec.toNat := by
    have := c.toBitVec.isLt
    have e : c.toInt = c.toBitVec.toInt := rfl
    rw [e] at h0 h1
    rw [e]
    rw [BitVec.toInt_eq_toNat_cond] at h0 h1 ⊢
    split at h0 <;> split <;> omega
  have hn : c.toBitVec.toNat < 65536 := by omega
  have a1 := lo8_and c
  have a2 : (hi8 c &&& 255).toBitVec.toNat = c.toBitVec.toNat / 256 := by
    rw [hi8, lo8_and]
    have e : ((8 : Int32) &&& 31) = 8 := by decide
    rw [e, Int32.toBitVec_shiftRight]
    have e2 : ((8 : Int32).toBitVec.smod 32) = 8#32 := by decide
    rw [e2, BitVec.sshiftRight_eq', BitVec.toNat_sshiftRight_of_msb_false (by rw [BitVec.msb_eq_false_iff_two_mul_lt]; omega)]
    show c.toBitVec.toNat >>> 8 % 256 = _
    rw [Nat.shiftRight_eq_div_pow]
    omega
  unfold pairCh
  apply Int32.toBitVec_inj.mp
  apply BitVec.eq_of_toNat_eq
  have f0 : ((0 : Int32) &&& 31) = 0 := by decide
  have f8 : ((8 : Int32) &&& 31) = 8 := by decide
  rw [f0, f8]
  have g : (((lo8 c &&& 255) <<< (0 : Int32)) ||| ((hi8 c &&& 255) <<< (8 : Int32))).toBitVec.toNat = c.toBitVec.toNat := by
    rw [Int32.toBitVec_or, Int32.toBitVec_shiftLeft, Int32.toBitVec_shiftLeft]
    have s0 : ((0 : Int32).toBitVec.smod 32) = 0#32 := by decide
    have s8 : ((8 : Int32).toBitVec.smod 32) = 8#32 := by decide
    rw [s0, s8, BitVec.toNat_or]
    simp only [BitVec.shiftLeft_eq', BitVec.toNat_shiftLeft, a1, a2]
    show (c.toBitVec.toNat % 256) <<< 0 % 2 ^ 32 ||| (c.toBitVec.toNat / 256) <<< 8 % 2 ^ 32 = _
    rw [Nat.shiftLeft_zero, Nat.mod_eq_of_lt (show c.toBitVec.toNat % 256 < 2 ^ 32 by omega), Nat.mod_eq_of_lt (show (c.toBitVec.toNat / 256) <<< 8 < 2 ^ 32 by rw [Nat.shiftLeft_eq]; omega), Nat.or_comm, ← Nat.shiftLeft_add_eq_or_of_lt (by omega), Nat.shiftLeft_eq]
    omega
  show BitVec.toNat (((((lo8 c &&& 255) <<< (0 : Int32)) ||| ((hi8 c &&& 255) <<< (8 : Int32))).toBitVec.setWidth 16).setWidth 32) = _
  rw [BitVec.toNat_setWidth, BitVec.toNat_setWidth, g]
  omega
end StrChars
namespace StrChars
open Jvm Sem ClassFile Op Lib Jvm.Stand Jvm.Free.XT Jvm.Free.ALB Jvm.Free.JM Jvm.Free
open Jvm.Lib.Cold (StaticIs)
/-- the array's cell V codes the n chars f 0 .. f (n - 1) by the coder cd, as the JDK does: coder 1 just where some char is above 255 -/
def Cod (cd : Int32) (n : Nat) (f : Nat → Int32) (V : Cell) : Prop := (cd = 0 ∧ V.slots.size = n ∧ ∀ j, j < n → V.slots[j]? = some (.int (lo8 (f j))) ∧ ¬ 255 < f j) ∨ (cd = 1 ∧ V.slots.size = 2 * n ∧ (∀ j, j < n → V.slots[2 * j]? = some (.int (lo8 (f j))) ∧ V.slots[2 * j + 1]? = some (.int (hi8 (f j)))) ∧ ∃ j, j < n ∧ 255 < f j)
/-- **x is a String of the n chars f 0 .. f (n - 1)**, Latin-1 or UTF-16; its array at t has the cell V -/
def Txt (x t : Addr) (V : Cell) (cd : Int32) (n : Nat) (f : Nat → Int32) (U : State) : Prop := Exact "java/lang/String" x U ∧ Has x "java/lang/String" "value" "[B" (.ref t) U ∧ Has x "java/lang/String" "coder" "B" (.int cd) U ∧ XT.Arr .byte t V U ∧ Cod cd n f V ∧ ∀ j, j < n → ¬ f j < 0 ∧ ¬ 65535 < f j
theorem Txt.mv {x t : Addr} {V : Cell} {cd : Int32} {n : Nat} {f : Nat → Int32} {U U' : State} (h : Txt x t V cd n f U) (hal : U.vm.Alike U'.vm) (hh : U'.heap = U.heap) : Txt x t V cd n f U' := ⟨h.1.mv hal hh, h.2.1.mv hal hh, h.2.2.1.mv hal hh, h.2.2.2.1.mv hal hh, h.2.2.2.2⟩
end StrChars
namespace StrChars.Road
open Jvm Sem ClassFile Op Lib Jvm.Stand Jvm.Free Jvm.Free.XT
open Jvm.Lib.Cold (StaticIs)
theorem consq {a : Array Value} {s : State} {c : Jvm.Cond} {L : List Jvm.Cond} (h0 : c.before a s = true) (h : ∀ w ∈ L, w.before a s = true) : ∀ w ∈ c :: L, w.before a s = true := fun w hw => (List.mem_cons.mp hw).elim (fun e => e ▸ h0) (h w)
/-- the bytes of the chars cs, low before high -/
def wideBytes : List Int32 → List Value
  | [] => []
  | c :: cs => .int (lo8 c) :: .int (hi8 c) :: wideBytes cs
theorem wide_lo (d : Value) : ∀ (cs : List Int32) (j : Nat), j < cs.length → (wideBytes cs).getD (2 * j) d = .int (lo8 (cs.getD j 0))
  | [], j, h => absurd h (Nat.not_lt_zero j)
  | c :: cs, 0, _ => rfl
  | c :: cs, j + 1, h => by
    have q := wide_lo d cs j (by simpa using h)
    rw [show 2 * (j + 1) = 2 * j + 1 + 1 from by omega]
    simpa [wideBytes] using q
theorem wide_hi (d : Value) : ∀ (cs : List Int32) (j : Nat), j < cs.length → (wideBytes cs).getD (2 * j + 1) d = .int (hi8 (cs.getD j 0))
  | [], j, h => absurd h (Nat.not_lt_zero j)
  | c :: cs, 0, _ => rfl
  | c :: cs, j + 1, h => by
    have q := wide_hi d cs j (by simpa using h)
    rw [show 2 * (j + 1) + 1 = 2 * j + 1 + 1 + 1 from by omega]
    simpa [wideBytes] using q
theorem low_at (d : Value) (cs : List Int32) (j : Nat) (h : j < cs.length) : (cs.map fun c => Value.int (lo8 c)).getD j d = .int (lo8 (cs.getD j 0)) := by
  simp [List.getD_eq_getElem?_getD, h]
/-- an array of N2 bytes vs codes the chars cs by the coder cd -/
def CodA (cs : List Int32) (cd N2 : Int32) (vs : List Value) : Prop := (cd = 0 ∧ N2 = Int32.ofNat cs.length ∧ vs = (cs.map fun c => Value.int (lo8 c)) ∧ ∀ c ∈ cs, ¬ 255 < c) ∨ (cd = 1 ∧ N2 = Int32.ofNat (2 * cs.length) ∧ vs = wideBytes cs ∧ ∃ c ∈ cs, 255 < c)
theorem CodA.cod {cs : List Int32} {cd N2 : Int32} {vs : List Value} {V : Cell} (h : CodA cs cd N2 vs) (hn : 2 * cs.length < 2 ^ 31) (hs : V.slots.size = N2.toNatClampNeg) (hv : RoadKit.Has V vs (.int 0)) : Cod cd cs.length (fun j => cs.getD j 0) V := by
  rcases h with ⟨rfl, rfl, rfl, h⟩ | ⟨rfl, rfl, rfl, c, hc, hw⟩
  · rw [n32 (by omega)] at hs
    exact Or.inl ⟨rfl, hs, fun j hj => ⟨by rw [hv j (by omega), low_at _ _ _ hj], by
      have e : cs.getD j 0 = cs[j] := by simp [List.getD_eq_getElem?_getD, hj]
      show ¬ 255 < cs.getD j 0
      rw [e]; exact h _ (List.getElem_mem _)⟩⟩
  · rw [n32 (by omega)] at hs
    obtain ⟨j, hj, rfl⟩ := List.getElem_of_mem hc
    exact Or.inr ⟨rfl, hs, fun j hj => ⟨by rw [hv _ (by omega), wide_lo _ _ _ hj], by rw [hv _ (by omega), wide_hi _ _ _ hj]⟩, j, hj, by
      have e : cs.getD j 0 = cs[j] := by simp [List.getD_eq_getElem?_getD, hj]
      show 255 < cs.getD j 0
      rw [e]; exact hw⟩
/-- an object of exactly java/lang/String, its two fields found: as the laws ask it -/
theorem strObj {Z U : State} {a0 : Array Value} {kI : Nat} (wi : (Jvm.Cond.instantiable ST kI).before a0 Z = true) (al : Z.vm.Alike U.vm) {x : Addr} {v0 c0 : Value} (E : RoadKit.Exa Z U.heap x ST) (V : RoadKit.Fld Z U.heap x ST "value" "[B" v0) (C : RoadKit.Fld Z U.heap x ST "coder" "B" c0) :
    ∃ (D : Cell) (fV fC : Field), Blank ST x D U ∧ Found ST "value" "[B" fV U ∧ Found ST "coder" "B" fC U ∧ D.slots[fV.slot]? = some v0 ∧ D.slots[fC.slot]? = some c0 ∧ RoadKit.slotOf Z ST "value" "[B" = fV.slot ∧ RoadKit.slotOf Z ST "coder" "B" = fC.slot := by
  obtain ⟨D, cfV, kV, iV, fV, hD, gV, stV, knV, obV, asV, slV⟩ := V
  obtain ⟨D', cfC, kC, iC, fC, hD', gC, stC, -, -, asC, slC⟩ := C
  cases hD.symm.trans hD'
  obtain ⟨D2, kD, e1, e2, e3, e4, e5⟩ := E
  cases hD.symm.trans e1
  obtain ⟨c2, k2, i1, i2, i3, -⟩ := Cond.instantiable_spec wi
  cases e2.symm.trans i1
  cases e3.symm.trans i2
  obtain ⟨kU, u1, u2⟩ := al.2.2 _ _ e3
  exact ⟨D, fV, fC, ⟨hD, ⟨knV, fun q hq => by rw [hq] at obV; cases obV⟩, by rw [al.findClass]; exact e2, kU, u1, by rw [u2]; exact i3, by rw [u2]; exact e5 i3⟩, ⟨SBG.found_only al ⟨cfV, kV, iV, gV⟩, stV⟩, ⟨SBG.found_only al ⟨cfC, kC, iC, gC⟩, stC⟩, slV, slC, by simp [RoadKit.slotOf, gV], by simp [RoadKit.slotOf, gC]⟩
theorem sta_is {Z U : State} (al : Z.vm.Alike U.vm) {C n d : String} {v : Value} (S : RoadKit.Sta Z U.heap C n d v) : StaticIs U C n d v := by
  obtain ⟨cfS, iS, kS, fS, st, cS, t1, t2, t3, t4, t5, t6, t7⟩ := S
  exact StaticIs.there (s := { Z with heap := U.heap }) ⟨cfS, iS, kS, fS, st, cS, t1, t2, t3, t4, t5, (fun q => by rw [q] at t6; cases t6), t7⟩ al rfl
end StrChars.Road
namespace StrChars
open Jvm Sem ClassFile Op Lib Jvm.Stand Jvm.Free.XT Jvm.Free.ALB Jvm.Free.JM Jvm.Free
open Jvm.Lib.Cold (StaticIs)
/-- what place i of a byte[]'s cell holds -/
def yv (A : Cell) (i : Nat) : Int32 := match A.slots[i]? with | some (.int x) => x | _ => 0
theorem yv_get {a : Addr} {A : Cell} {U : State} (h : XT.Arr .byte a A U) (ht : Typed .byte A) {i : Nat} (hi : i < A.slots.size) : A.slots[i]? = some (.int (yv A i)) := by
  have e := Array.getElem?_eq_getElem hi
  have f := ht i _ e
  unfold yv; rw [e]
  generalize A.slots[i] = v at f
  cases v <;> simp [fits] at f ⊢
/-- the two arrays are equal, place for place -/
def EqC (A B : Cell) : Prop := A.slots.size = B.slots.size ∧ ∀ i, i < A.slots.size → yv A i = yv B i
/-- a boolean that says whether p -/
def Says01 (q : Prop) (r : Option Value) (s u : State) : Prop := ∃ v : Int32, r = some (.int v) ∧ u.heap = s.heap ∧ ((v = 1 ∧ q) ∨ (v = 0 ∧ ¬ q))
theorem Says01.mv {q : Prop} : ∀ r (U U' V V' : State), U'.heap = U.heap → V.vm.Alike V'.vm → V'.heap = V.heap → Says01 q r U V → Says01 q r U' V' :=
  fun r U U' V V' h1 _ h2 ⟨v, a, b, c⟩ => ⟨v, a, by rw [h1, h2]; exact b, c⟩
namespace LEq
def yN : MethodName := ⟨"java/lang/StringLatin1", "equals", "([B[B)Z"⟩
abbrev yB : ByteArray := jdk_43_method_13_code
theorem d0 : decode yB 0 = .ok (.aload_n 0, 1) := by decide +kernel
theorem d1 : decode yB 1 = .ok (.arraylength, 1) := by decide +kernel
theorem d2 : decode yB 2 = .ok (.aload_n 1, 1) := by decide +kernel
theorem d3 : decode yB 3 = .ok (.arraylength, 1) := by decide +kernel
theorem d4 : decode yB 4 = .ok (.if_icmp (.ne) 30, 3) := by decide +kernel
theorem d7 : decode yB 7 = .ok (.iconst 0, 1) := by decide +kernel
theorem d8 : decode yB 8 = .ok (.istore_n 2, 1) := by decide +kernel
theorem d9 : decode yB 9 = .ok (.iload_n 2, 1) := by decide +kernel
theorem d10 : decode yB 10 = .ok (.aload_n 0, 1) := by decide +kernel
theorem d11 : decode yB 11 = .ok (.arraylength, 1) := by decide +kernel
theorem d12 : decode yB 12 = .ok (.if_icmp (.ge) 20, 3) := by decide +kernel
theorem d15 : decode yB 15 = .ok (.aload_n 0, 1) := by decide +kernel
theorem d16 : decode yB 16 = .ok (.iload_n 2, 1) := by decide +kernel
theorem d17 : decode yB 17 = .ok (.baload, 1) := by decide +kernel
theorem d18 : decode yB 18 = .ok (.aload_n 1, 1) := by decide +kernel
theorem d19 : decode yB 19 = .ok (.iload_n 2, 1) := by decide +kernel
theorem d20 : decode yB 20 = .ok (.baload, 1) := by decide +kernel
theorem d21 : decode yB 21 = .ok (.if_icmp (.eq) 5, 3) := by decide +kernel
theorem d24 : decode yB 24 = .ok (.iconst 0, 1) := by decide +kernel
theorem d25 : decode yB 25 = .ok (.ireturn, 1) := by decide +kernel
theorem d26 : decode yB 26 = .ok (.iinc 2 1, 3) := by decide +kernel
theorem d29 : decode yB 29 = .ok (.goto (-20), 3) := by decide +kernel
theorem d32 : decode yB 32 = .ok (.iconst 1, 1) := by decide +kernel
theorem d33 : decode yB 33 = .ok (.ireturn, 1) := by decide +kernel
theorem d34 : decode yB 34 = .ok (.iconst 0, 1) := by decide +kernel
theorem d35 : decode yB 35 = .ok (.ireturn, 1) := by decide +kernel
def site : List Cond := []
def tab : Cond := tabOf yN yB 3 (some .boolean) site
def P (a : Addr) (A : Cell) (b : Addr) (B : Cell) (args : Array Value) (s : State) : Prop := args = #[.ref a, .ref b] ∧ XT.Arr .byte a A s ∧ Typed .byte A ∧ XT.Arr .byte b B s ∧ Typed .byte B
/-- whether two byte[] are equal, place for place -/
theorem law (l : Launch) (a : Addr) (A : Cell) (b : Addr) (B : Cell) : Law l yN 2 2 0 0 yB 3 (some .boolean) site (P a A b B) (Says01 (EqC A B)) [] 0 0 := by
  refine Law.of_walk (plainFor_of_name (by decide +kernel)) (by decide +kernel) (by decide +kernel) (by decide) (fun _ _ h => by rw [h.1]; rfl) (fun _ U U' hal hh h => ⟨h.1, h.2.1.mv hal hh, h.2.2.1, h.2.2.2.1.mv hal hh, h.2.2.2.2⟩) (fun r U U' V V' h1 hal h2 h => Says01.mv r U U' V V' h1 hal h2 h) ?_
  intro p e s m args below meth c s₁ X0 hexec hbytes hml hret hlk hnm hown hh0 W hP
  obtain ⟨rfl, hA, tA, hB, tB⟩ := hP
  have a31 := hA.2.2.2
  have b31 := hB.2.2.2
  have hA0 := hA.mv X0.warmed.alike hh0
  have hB0 := hB.mv X0.warmed.alike hh0
  have c1 : Steps p.tables e below (s₁.setTop (entryFrame m #[.ref a, .ref b] 3)) (s₁.setTop (mkF m 0 #[.val (.ref a), .val (.ref b), .unset] [])) := entry rfl
  have c2 : Steps p.tables e below (s₁.setTop (entryFrame m #[.ref a, .ref b] 3)) (s₁.setTop (mkF m 4 #[.val (.ref a), .val (.ref b), .unset] [.int (Int32.ofNat B.slots.size), .int (Int32.ofNat A.slots.size)])) := c1.trans (by
    refine XS.aloadN X0.here hexec rfl (hb hbytes d0) rfl rfl ?_
    refine X0.alen hexec hA0 rfl rfl (hb hbytes d1) ?_
    refine XS.aloadN X0.here hexec rfl (hb hbytes d2) rfl rfl ?_
    refine X0.alen hexec hB0 rfl rfl (hb hbytes d3) ?_
    exact Steps.refl _)
  by_cases hs : A.slots.size = B.slots.size
  · have c3 : Steps p.tables e below (s₁.setTop (entryFrame m #[.ref a, .ref b] 3)) (s₁.setTop (mkF m 9 #[.val (.ref a), .val (.ref b), .val (.int 0)] [])) := c2.trans (by
      refine XS.icmpNo X0.here hexec rfl (hb hbytes d4) rfl (ii_ne_f (by rw [hs])) ?_
      refine iconstV X0.here hexec rfl 0 (hb hbytes d7) (by decide) ?_
      refine XS.istoreN X0.here hexec rfl (hb hbytes d8) rfl rfl ?_
      exact Steps.refl _)
    have loop : ∀ (r i : Nat), i + r = A.slots.size → (∀ j, j < i → yv A j = yv B j) → Steps p.tables e below (s₁.setTop (entryFrame m #[.ref a, .ref b] 3)) (s₁.setTop (mkF m 9 #[.val (.ref a), .val (.ref b), .val (.int (Int32.ofNat i))] [])) → ∃ (pc : Nat) (Ls : Array Slot) (v : Int32), (pc = 25 ∨ pc = 33) ∧ ((v = 1 ∧ EqC A B) ∨ (v = 0 ∧ ¬ EqC A B)) ∧ Steps p.tables e below (s₁.setTop (entryFrame m #[.ref a, .ref b] 3)) (s₁.setTop (mkF m pc Ls [.int v])) := by
      intro r
      induction r with
      | zero =>
        intro i hi he cl
        exact ⟨33, _, 1, Or.inr rfl, Or.inl ⟨rfl, hs, fun j hj => he j (by omega)⟩, cl.trans (by
          refine XS.iloadN X0.here hexec rfl (hb hbytes d9) rfl ?_
          refine XS.aloadN X0.here hexec rfl (hb hbytes d10) rfl rfl ?_
          refine X0.alen hexec hA0 rfl rfl (hb hbytes d11) ?_
          refine XS.icmpYes X0.here hexec rfl (pc0 := 12) rfl (hb hbytes d12) rfl (ii_ge_t (nlt32 (by omega) (by omega))) (by decide) rfl ?_
          refine iconstV X0.here hexec rfl 1 (hb hbytes d32) (by decide) ?_
          exact Steps.refl _)⟩
      | succ r ih =>
        intro i hi he cl
        have c4 : Steps p.tables e below (s₁.setTop (entryFrame m #[.ref a, .ref b] 3)) (s₁.setTop (mkF m 21 #[.val (.ref a), .val (.ref b), .val (.int (Int32.ofNat i))] [.int (yv B i), .int (yv A i)])) := cl.trans (by
          refine XS.iloadN X0.here hexec rfl (hb hbytes d9) rfl ?_
          refine XS.aloadN X0.here hexec rfl (hb hbytes d10) rfl rfl ?_
          refine X0.alen hexec hA0 rfl rfl (hb hbytes d11) ?_
          refine XS.icmpNo X0.here hexec rfl (hb hbytes d12) rfl (ii_ge_f (lt32 (by omega) (by omega))) ?_
          refine XS.aloadN X0.here hexec rfl (hb hbytes d15) rfl rfl ?_
          refine XS.iloadN X0.here hexec rfl (hb hbytes d16) rfl ?_
          refine X0.aget hexec hA0 rfl (yv_get hA tA (i := i) (by omega)) rfl rfl (hb hbytes d17) ?_
          refine XS.aloadN X0.here hexec rfl (hb hbytes d18) rfl rfl ?_
          refine XS.iloadN X0.here hexec rfl (hb hbytes d19) rfl ?_
          refine X0.aget hexec hB0 rfl (yv_get hB tB (i := i) (by omega)) rfl rfl (hb hbytes d20) ?_
          exact Steps.refl _)
        by_cases hv : yv A i = yv B i
        · have c5 : Steps p.tables e below (s₁.setTop (entryFrame m #[.ref a, .ref b] 3)) (s₁.setTop (mkF m 9 #[.val (.ref a), .val (.ref b), .val (.int (Int32.ofNat i + 1))] [])) := c4.trans (by
            refine XS.icmpYes X0.here hexec rfl (pc0 := 21) rfl (hb hbytes d21) rfl (ii_eq_t hv) (by decide) rfl ?_
            refine iincV X0.here hexec rfl 1 (hb hbytes d26) (by decide) rfl rfl ?_
            refine XS.goto X0.here hexec rfl (pc0 := 29) rfl (hb hbytes d29) (by decide) rfl ?_
            exact Steps.refl _)
          rw [succ32] at c5
          exact ih (i + 1) (by omega) (fun j hj => by
            by_cases e : j = i
            · rw [e]; exact hv
            · exact he j (by omega)) c5
        · exact ⟨25, _, 0, Or.inl rfl, Or.inr ⟨rfl, fun q => hv (q.2 i (by omega))⟩, c4.trans (by
            refine XS.icmpNo X0.here hexec rfl (hb hbytes d21) rfl (ii_eq_f hv) ?_
            refine iconstV X0.here hexec rfl 0 (hb hbytes d24) (by decide) ?_
            exact Steps.refl _)⟩
    obtain ⟨pc, Ls, v, hpc, hv, cz⟩ := loop A.slots.size 0 (by omega) (fun j hj => absurd hj (Nat.not_lt_zero j)) c3
    have nv : narrow .boolean (.int v) = .int v := by rcases hv with ⟨rfl, -⟩ | ⟨rfl, -⟩ <;> rfl
    rcases hpc with rfl | rfl
    · exact ⟨s₁, some (.int v), _, _, _, X0, rfl, rfl, rfl, (fun h => by cases h), ⟨v, rfl, hh0, hv⟩, fun fs hl => cz.trans (X0.ireturnOut hexec hret nv (Or.inr (Or.inl rfl)) (hb hbytes d25) hl)⟩
    · exact ⟨s₁, some (.int v), _, _, _, X0, rfl, rfl, rfl, (fun h => by cases h), ⟨v, rfl, hh0, hv⟩, fun fs hl => cz.trans (X0.ireturnOut hexec hret nv (Or.inr (Or.inl rfl)) (hb hbytes d33) hl)⟩
  · have c3 : Steps p.tables e below (s₁.setTop (entryFrame m #[.ref a, .ref b] 3)) (s₁.setTop (mkF m 35 #[.val (.ref a), .val (.ref b), .unset] [.int 0])) := c2.trans (by
      refine XS.icmpYes X0.here hexec rfl (pc0 := 4) rfl (hb hbytes d4) rfl (ii_ne_t (ne32 a31 b31 hs)) (by decide) rfl ?_
      refine iconstV X0.here hexec rfl 0 (hb hbytes d34) (by decide) ?_
      exact Steps.refl _)
    exact ⟨s₁, some (.int 0), _, _, _, X0, rfl, rfl, rfl, (fun h => by cases h), ⟨0, rfl, hh0, Or.inr ⟨rfl, fun q => hs q.1⟩⟩, fun fs hl => c3.trans (X0.ireturnOut hexec hret rfl (Or.inr (Or.inl rfl)) (hb hbytes d35) hl)⟩
end LEq
theorem Cod.ty {cd : Int32} {n : Nat} {f : Nat → Int32} {V : Cell} (h : Cod cd n f V) : Typed .byte V := fun i v hv => by
  have hi : i < V.slots.size := (Array.getElem?_eq_some_iff.mp hv).1
  rcases h with ⟨-, k1, k2⟩ | ⟨-, k1, k2, -⟩
  · rw [(k2 i (by omega)).1] at hv; cases hv; exact fits_lo8 _
  · rcases Nat.mod_two_eq_zero_or_one i with e | e
    · obtain ⟨j, rfl⟩ : ∃ j, i = 2 * j := ⟨i / 2, by omega⟩
      rw [(k2 j (by omega)).1] at hv; cases hv; exact fits_lo8 _
    · obtain ⟨j, rfl⟩ : ∃ j, i = 2 * j + 1 := ⟨i / 2, by omega⟩
      rw [(k2 j (by omega)).2] at hv; cases hv; exact fits_lo8 _
/-- the same text -/
def SameT (n : Nat) (f : Nat → Int32) (k : Nat) (g : Nat → Int32) : Prop := n = k ∧ ∀ j, j < n → f j = g j
theorem lo8_inj {x y : Int32} (h0 : ¬ x < 0) (h1 : ¬ 255 < x) (k0 : ¬ y < 0) (k1 : ¬ 255 < y) (h : lo8 x = lo8 y) : x = y := by
  rw [← lo8_mask h0 h1, ← lo8_mask k0 k1, h]
/-- arrays coded by one coder are equal just where the texts are -/
theorem Cod.eqv {cd : Int32} {n k : Nat} {f g : Nat → Int32} {V V' : Cell} (h : Cod cd n f V) (h' : Cod cd k g V') (hf : ∀ j, j < n → ¬ f j < 0 ∧ ¬ 65535 < f j) (hg : ∀ j, j < k → ¬ g j < 0 ∧ ¬ 65535 < g j) : EqC V V' ↔ SameT n f k g := by
  have yvv : ∀ {W : Cell} {i : Nat} {x : Int32}, W.slots[i]? = some (.int x) → yv W i = x := fun q => by unfold yv; rw [q]
  rcases h with ⟨rfl, k1, k2⟩ | ⟨rfl, k1, k2, -⟩
  · rcases h' with ⟨-, m1, m2⟩ | ⟨e, -⟩
    · constructor
      · rintro ⟨e1, e2⟩
        refine ⟨by omega, fun j hj => ?_⟩
        have q := e2 j (by omega)
        rw [yvv (k2 j hj).1, yvv (m2 j (by omega)).1] at q
        exact lo8_inj (hf j hj).1 (k2 j hj).2 (hg j (by omega)).1 (m2 j (by omega)).2 q
      · rintro ⟨rfl, e2⟩
        refine ⟨by omega, fun j hj => ?_⟩
        rw [yvv (k2 j (by omega)).1, yvv (m2 j (by omega)).1, e2 j (by omega)]
    · exact absurd e (by decide)
  · rcases h' with ⟨e, -⟩ | ⟨-, m1, m2, -⟩
    · exact absurd e (by decide)
    · constructor
      · rintro ⟨e1, e2⟩
        refine ⟨by omega, fun j hj => ?_⟩
        have q1 := e2 (2 * j) (by omega)
        have q2 := e2 (2 * j + 1) (by omega)
        rw [yvv (k2 j hj).1, yvv (m2 j (by omega)).1] at q1
        rw [yvv (k2 j hj).2, yvv (m2 j (by omega)).2] at q2
        rw [← pair_says (hf j hj).1 (hf j hj).2, ← pair_says (hg j (by omega)).1 (hg j (by omega)).2, q1, q2]
      · rintro ⟨rfl, e2⟩
        refine ⟨by omega, fun i hi => ?_⟩
        rcases Nat.mod_two_eq_zero_or_one i with e | e
        · obtain ⟨j, rfl⟩ : ∃ j, i = 2 * j := ⟨i / 2, by omega⟩
          rw [yvv (k2 j (by omega)).1, yvv (m2 j (by omega)).1, e2 j (by omega)]
        · obtain ⟨j, rfl⟩ : ∃ j, i = 2 * j + 1 := ⟨i / 2, by omega⟩
          rw [yvv (k2 j (by omega)).2, yvv (m2 j (by omega)).2, e2 j (by omega)]
/-- two codings differ: so do the texts -/
theorem Cod.dif {cd cd' : Int32} {n k : Nat} {f g : Nat → Int32} {V V' : Cell} (h : Cod cd n f V) (h' : Cod cd' k g V') (hne : ¬ cd = cd') : ¬ SameT n f k g := by
  rintro ⟨rfl, e⟩
  rcases h with ⟨rfl, -, k2⟩ | ⟨rfl, -, -, j, hj, hw⟩
  · rcases h' with ⟨rfl, -⟩ | ⟨-, -, -, j, hj, hw⟩
    · exact hne rfl
    · exact (k2 j hj).2 (by rw [e j hj]; exact hw)
  · rcases h' with ⟨-, -, m2⟩ | ⟨rfl, -⟩
    · exact (m2 j hj).2 (by rw [← e j hj]; exact hw)
    · exact hne rfl
/-- an object of exactly C is an instance of C -/
theorem cinst {p : Program} {l : Launch} {e : Env} {R : Room} {s : State} {m : MethodId} {args : Array Value} {below : List Frame} {meth : Method} {c : Code} {T : State} {locs : List Loc} {cells slots : Nat} (X : Stand p l e R s m args below meth c T locs cells slots) (hexec : p.tables.exec = Jvm.exec) {own C : String} {index : Nat} (hown : s.vm.findClass own = some m.cls) (hlink : (Cond.classLink own index C).before args s = true) {a : Addr} (hE : Exact C a T)
    {g : JFrame} (hg : g.method = m) {rest : List Value} (hstack : g.stack = .ref a :: rest) (hdg : decode c.code g.pc = .ok (.instanceof index, 3)) :
    ∃ T', Stand p l e R s m args below meth c T' locs cells slots ∧ T'.heap = T.heap ∧ ∀ target, Steps p.tables e below (T'.setTop { g with pc := g.pc + 3, stack := .int 1 :: rest }) target → Steps p.tables e below (T.setTop g) target := by
  obtain ⟨cB, h1, D, h2, h3, h4⟩ := hE
  have h1' : s.vm.findClass C = some cB := by rw [← X.warmed.alike.findClass]; exact h1
  obtain ⟨vm', X', st⟩ := X.instanceofYes hexec hown hlink h2 h4 h1' (by rw [h3]; exact Jvm.Free.SB.assignable_self _ _) hg hstack hdg
  exact ⟨_, X', rfl, st⟩
theorem cself {p : Program} {l : Launch} {e : Env} {R : Room} {s : State} {m : MethodId} {args : Array Value} {below : List Frame} {meth : Method} {c : Code} {T : State} {locs : List Loc} {cells slots : Nat} (X : Stand p l e R s m args below meth c T locs cells slots) (hexec : p.tables.exec = Jvm.exec) {own C : String} {index : Nat} (hown : s.vm.findClass own = some m.cls) (hlink : (Cond.classLink own index C).before args s = true) {a : Addr} (hE : Exact C a T)
    {g : JFrame} (hg : g.method = m) {rest : List Value} (hstack : g.stack = .ref a :: rest) (hdg : decode c.code g.pc = .ok (.checkcast index, 3)) :
    ∃ T', Stand p l e R s m args below meth c T' locs cells slots ∧ T'.heap = T.heap ∧ ∀ target, Steps p.tables e below (T'.setTop { g with pc := g.pc + 3, stack := .ref a :: rest }) target → Steps p.tables e below (T.setTop g) target := by
  obtain ⟨cB, h1, D, h2, h3, h4⟩ := hE
  have h1' : s.vm.findClass C = some cB := by rw [← X.warmed.alike.findClass]; exact h1
  obtain ⟨vm', X', st⟩ := X.checkcastYes hexec hown hlink h2 h4 h1' (by rw [h3]; exact Jvm.Free.SB.assignable_self _ _) hg hstack hdg
  exact ⟨_, X', rfl, fun t h => st t (by rw [← hstack] at h; exact h)⟩
namespace SEq
def yN : MethodName := ⟨"java/lang/String", "equals", "(Ljava/lang/Object;)Z"⟩
abbrev yB : ByteArray := jdk_42_method_66_code
theorem d0 : decode yB 0 = .ok (.aload_n 0, 1) := by decide +kernel
theorem d1 : decode yB 1 = .ok (.aload_n 1, 1) := by decide +kernel
theorem d2 : decode yB 2 = .ok (.if_acmp (.ne) 5, 3) := by decide +kernel
theorem d5 : decode yB 5 = .ok (.iconst 1, 1) := by decide +kernel
theorem d6 : decode yB 6 = .ok (.ireturn, 1) := by decide +kernel
theorem d7 : decode yB 7 = .ok (.aload_n 1, 1) := by decide +kernel
theorem d8 : decode yB 8 = .ok (.instanceof 10, 3) := by decide +kernel
theorem d11 : decode yB 11 = .ok (.ifCond (.eq) 43, 3) := by decide +kernel
theorem d14 : decode yB 14 = .ok (.aload_n 1, 1) := by decide +kernel
theorem d15 : decode yB 15 = .ok (.checkcast 10, 3) := by decide +kernel
theorem d18 : decode yB 18 = .ok (.astore_n 2, 1) := by decide +kernel
theorem d19 : decode yB 19 = .ok (.getstatic 38, 3) := by decide +kernel
theorem d22 : decode yB 22 = .ok (.ifCond (.eq) 14, 3) := by decide +kernel
theorem d25 : decode yB 25 = .ok (.aload_n 0, 1) := by decide +kernel
theorem d26 : decode yB 26 = .ok (.getfield 15, 3) := by decide +kernel
theorem d29 : decode yB 29 = .ok (.aload_n 2, 1) := by decide +kernel
theorem d30 : decode yB 30 = .ok (.getfield 15, 3) := by decide +kernel
theorem d33 : decode yB 33 = .ok (.if_icmp (.ne) 21, 3) := by decide +kernel
theorem d36 : decode yB 36 = .ok (.aload_n 0, 1) := by decide +kernel
theorem d37 : decode yB 37 = .ok (.getfield 9, 3) := by decide +kernel
theorem d40 : decode yB 40 = .ok (.aload_n 2, 1) := by decide +kernel
theorem d41 : decode yB 41 = .ok (.getfield 9, 3) := by decide +kernel
theorem d44 : decode yB 44 = .ok (.invokestatic 541, 3) := by decide +kernel
theorem d47 : decode yB 47 = .ok (.ifCond (.eq) 7, 3) := by decide +kernel
theorem d50 : decode yB 50 = .ok (.iconst 1, 1) := by decide +kernel
theorem d51 : decode yB 51 = .ok (.goto 4, 3) := by decide +kernel
theorem d54 : decode yB 54 = .ok (.iconst 0, 1) := by decide +kernel
theorem d55 : decode yB 55 = .ok (.ireturn, 1) := by decide +kernel
def site : List Cond := [.classLink "java/lang/String" 10 "java/lang/String", .fieldLink "java/lang/String" 38 "java/lang/String" "COMPACT_STRINGS" "Z", .fieldLink "java/lang/String" 15 "java/lang/String" "coder" "B", .fieldLink "java/lang/String" 9 "java/lang/String" "value" "[B", LEq.tab] ++ staticW "java/lang/String" 541 LEq.yN
def tab : Cond := tabOf yN yB 3 (some .boolean) site
def P (x t : Addr) (V : Cell) (cd : Int32) (n : Nat) (f : Nat → Int32) (y t' : Addr) (V' : Cell) (cd' : Int32) (k : Nat) (g : Nat → Int32) (z : Int32) (args : Array Value) (s : State) : Prop := args = #[.ref x, .ref y] ∧ Txt x t V cd n f s ∧ Txt y t' V' cd' k g s ∧ StaticIs s "java/lang/String" "COMPACT_STRINGS" "Z" (.int z) ∧ ¬ z = 0
/-- equals(Object) of two Strings: whether the texts are the same -/
theorem law (l : Launch) (x t : Addr) (V : Cell) (cd : Int32) (n : Nat) (f : Nat → Int32) (y t' : Addr) (V' : Cell) (cd' : Int32) (k : Nat) (g : Nat → Int32) (z : Int32) : Law l yN 2 1 1 14 yB 3 (some .boolean) site (P x t V cd n f y t' V' cd' k g z) (Says01 (SameT n f k g)) [] 0 0 := by
  refine Law.of_walk (plainFor_of_name (by decide +kernel)) (by decide +kernel) (by decide +kernel) (by decide) (fun _ _ h => by rw [h.1]; rfl) (fun _ U U' hal hh h => ⟨h.1, h.2.1.mv hal hh, h.2.2.1.mv hal hh, h.2.2.2.1.there hal hh, h.2.2.2.2⟩) (fun r U U' V V' h1 hal h2 h => Says01.mv r U U' V V' h1 hal h2 h) ?_
  intro p e s m args below meth c s₁ X0 hexec hbytes hml hret hlk hnm hown hh0 W hP
  obtain ⟨rfl, hx, hy, s1, hz⟩ := hP
  have c1 : Steps p.tables e below (s₁.setTop (entryFrame m #[.ref x, .ref y] 3)) (s₁.setTop (mkF m 2 #[.val (.ref x), .val (.ref y), .unset] [.ref y, .ref x])) := Steps.trans (entry rfl) (by
    show Steps p.tables e below (s₁.setTop (mkF m 0 #[.val (.ref x), .val (.ref y), .unset] [])) _
    refine XS.aloadN X0.here hexec rfl (hb hbytes d0) rfl rfl ?_
    refine XS.aloadN X0.here hexec rfl (hb hbytes d1) rfl rfl ?_
    exact Steps.refl _)
  by_cases hxy : x = y
  · have c2 : Steps p.tables e below (s₁.setTop (entryFrame m #[.ref x, .ref y] 3)) (s₁.setTop (mkF m 6 #[.val (.ref x), .val (.ref y), .unset] [.int 1])) := c1.trans (by
      refine acmpNo X0.here hexec rfl (hb hbytes d2) rfl rfl rfl (by simp [acmp, hxy]) ?_
      refine iconstV X0.here hexec rfl 1 (hb hbytes d5) (by decide) ?_
      exact Steps.refl _)
    subst hxy
    have ec : cd = cd' := by
      obtain ⟨D, fd, a1, a2, a3⟩ := hx.2.2.1
      obtain ⟨D', fd', b1, b2, b3⟩ := hy.2.2.1
      cases a1.symm.trans b1
      obtain ⟨q1, q2, q3, q4⟩ := a2.1
      obtain ⟨r1, r2, r3, r4⟩ := b2.1
      cases q4.symm.trans r4
      cases a3.symm.trans b3; rfl
    have et : t = t' := by
      obtain ⟨D, fd, a1, a2, a3⟩ := hx.2.1
      obtain ⟨D', fd', b1, b2, b3⟩ := hy.2.1
      cases a1.symm.trans b1
      obtain ⟨q1, q2, q3, q4⟩ := a2.1
      obtain ⟨r1, r2, r3, r4⟩ := b2.1
      cases q4.symm.trans r4
      cases a3.symm.trans b3; rfl
    subst ec et
    have ev : V = V' := by cases hx.2.2.2.1.1.symm.trans hy.2.2.2.1.1; rfl
    subst ev
    have hs : SameT n f k g := (Cod.eqv hx.2.2.2.2.1 hy.2.2.2.2.1 hx.2.2.2.2.2 hy.2.2.2.2.2).mp ⟨rfl, fun _ _ => rfl⟩
    exact ⟨s₁, some (.int 1), _, _, _, X0, rfl, rfl, rfl, (fun h => by cases h), ⟨1, rfl, hh0, Or.inl ⟨rfl, hs⟩⟩, fun fs hl => c2.trans (X0.ireturnOut hexec hret rfl (Or.inr (Or.inl rfl)) (hb hbytes d6) hl)⟩
  · have c2 : Steps p.tables e below (s₁.setTop (entryFrame m #[.ref x, .ref y] 3)) (s₁.setTop (mkF m 8 #[.val (.ref x), .val (.ref y), .unset] [.ref y])) := c1.trans (by
      refine acmpYes X0.here hexec rfl (pc0 := 2) rfl (hb hbytes d2) rfl rfl rfl (by simp [acmp, hxy]) (by decide) rfl ?_
      refine XS.aloadN X0.here hexec rfl (hb hbytes d7) rfl rfl ?_
      exact Steps.refl _)
    obtain ⟨T3, X3, q3, st3⟩ := cinst X0 hexec hown (wk W (.classLink "java/lang/String" 10 "java/lang/String")) (hy.mv X0.warmed.alike hh0).1 (g := (mkF m 8 #[.val (.ref x), .val (.ref y), .unset] [.ref y])) rfl (rest := []) rfl (hb hbytes d8)
    have hh3 := q3.trans hh0
    have c4 : Steps p.tables e below (s₁.setTop (entryFrame m #[.ref x, .ref y] 3)) (T3.setTop (mkF m 15 #[.val (.ref x), .val (.ref y), .unset] [.ref y])) := (c2.trans (st3 _ (Steps.refl _))).trans (by
      refine XS.ifNo X3.here hexec rfl (hb hbytes d11) rfl (i0_eq_f (by decide)) ?_
      refine XS.aloadN X3.here hexec rfl (hb hbytes d14) rfl rfl ?_
      exact Steps.refl _)
    obtain ⟨T5, X5, q5, st5⟩ := cself X3 hexec hown (wk W (.classLink "java/lang/String" 10 "java/lang/String")) (hy.mv X3.warmed.alike hh3).1 (g := (mkF m 15 #[.val (.ref x), .val (.ref y), .unset] [.ref y])) rfl (rest := []) rfl (hb hbytes d15)
    have hh5 := q5.trans hh3
    have c6 : Steps p.tables e below (s₁.setTop (entryFrame m #[.ref x, .ref y] 3)) (T5.setTop (mkF m 19 #[.val (.ref x), .val (.ref y), .val (.ref y)] [])) := (c4.trans (st5 _ (Steps.refl _))).trans (by
      refine XS.astoreN X5.here hexec rfl (hb hbytes d18) rfl rfl rfl ?_
      exact Steps.refl _)
    obtain ⟨T7, X7, q7, st7⟩ := X5.sget hexec hown (wk W (.fieldLink "java/lang/String" 38 "java/lang/String" "COMPACT_STRINGS" "Z")) s1 (fun _ _ h => by rw [hh5]; exact h) (g := (mkF m 19 #[.val (.ref x), .val (.ref y), .val (.ref y)] [])) rfl (hb hbytes d19)
    have hh7 := q7.trans hh5
    have c8 : Steps p.tables e below (s₁.setTop (entryFrame m #[.ref x, .ref y] 3)) (T7.setTop (mkF m 26 #[.val (.ref x), .val (.ref y), .val (.ref y)] [.ref x])) := (c6.trans (st7 _ (Steps.refl _))).trans (by
      refine XS.ifNo X7.here hexec rfl (hb hbytes d22) rfl (i0_eq_f hz) ?_
      refine XS.aloadN X7.here hexec rfl (hb hbytes d25) rfl rfl ?_
      exact Steps.refl _)
    obtain ⟨T9, X9, q9, st9⟩ := X7.hget hexec hown (wk W (.fieldLink "java/lang/String" 15 "java/lang/String" "coder" "B")) (hx.mv X7.warmed.alike hh7).2.2.1 (g := (mkF m 26 #[.val (.ref x), .val (.ref y), .val (.ref y)] [.ref x])) rfl (rest := []) rfl (hb hbytes d26)
    have hh9 := q9.trans hh7
    have c10 : Steps p.tables e below (s₁.setTop (entryFrame m #[.ref x, .ref y] 3)) (T9.setTop (mkF m 30 #[.val (.ref x), .val (.ref y), .val (.ref y)] [.ref y, .int cd])) := (c8.trans (st9 _ (Steps.refl _))).trans (by
      refine XS.aloadN X9.here hexec rfl (hb hbytes d29) rfl rfl ?_
      exact Steps.refl _)
    obtain ⟨T11, X11, q11, st11⟩ := X9.hget hexec hown (wk W (.fieldLink "java/lang/String" 15 "java/lang/String" "coder" "B")) (hy.mv X9.warmed.alike hh9).2.2.1 (g := (mkF m 30 #[.val (.ref x), .val (.ref y), .val (.ref y)] [.ref y, .int cd])) rfl (rest := [.int cd]) rfl (hb hbytes d30)
    have hh11 := q11.trans hh9
    have c12 : Steps p.tables e below (s₁.setTop (entryFrame m #[.ref x, .ref y] 3)) (T11.setTop (mkF m 33 #[.val (.ref x), .val (.ref y), .val (.ref y)] [.int cd', .int cd])) := c10.trans (st11 _ (Steps.refl _))
    by_cases hcd : cd = cd'
    · subst hcd
      have c13 : Steps p.tables e below (s₁.setTop (entryFrame m #[.ref x, .ref y] 3)) (T11.setTop (mkF m 37 #[.val (.ref x), .val (.ref y), .val (.ref y)] [.ref x])) := c12.trans (by
        refine XS.icmpNo X11.here hexec rfl (hb hbytes d33) rfl (ii_ne_f rfl) ?_
        refine XS.aloadN X11.here hexec rfl (hb hbytes d36) rfl rfl ?_
        exact Steps.refl _)
      obtain ⟨T14, X14, q14, st14⟩ := X11.hget hexec hown (wk W (.fieldLink "java/lang/String" 9 "java/lang/String" "value" "[B")) (hx.mv X11.warmed.alike hh11).2.1 (g := (mkF m 37 #[.val (.ref x), .val (.ref y), .val (.ref y)] [.ref x])) rfl (rest := []) rfl (hb hbytes d37)
      have hh14 := q14.trans hh11
      have c15 : Steps p.tables e below (s₁.setTop (entryFrame m #[.ref x, .ref y] 3)) (T14.setTop (mkF m 41 #[.val (.ref x), .val (.ref y), .val (.ref y)] [.ref y, .ref t])) := (c13.trans (st14 _ (Steps.refl _))).trans (by
        refine XS.aloadN X14.here hexec rfl (hb hbytes d40) rfl rfl ?_
        exact Steps.refl _)
      obtain ⟨T16, X16, q16, st16⟩ := X14.hget hexec hown (wk W (.fieldLink "java/lang/String" 9 "java/lang/String" "value" "[B")) (hy.mv X14.warmed.alike hh14).2.1 (g := (mkF m 41 #[.val (.ref x), .val (.ref y), .val (.ref y)] [.ref y, .ref t])) rfl (rest := [.ref t]) rfl (hb hbytes d41)
      have hh16 := q16.trans hh14
      have c17 : Steps p.tables e below (s₁.setTop (entryFrame m #[.ref x, .ref y] 3)) (T16.setTop (mkF m 44 #[.val (.ref x), .val (.ref y), .val (.ref y)] [.ref t', .ref t])) := c15.trans (st16 _ (Steps.refl _))
      obtain ⟨v18, T18, X18, E18, g18⟩ := X16.callS hexec (LEq.law l t V t' V') hown (wks W (staticW "java/lang/String" 541 LEq.yN)) (wk W LEq.tab) (W := 0) (Nat.le_of_ble_eq_true rfl) (Nat.le_of_ble_eq_true rfl) (Nat.le_refl _) (Nat.le_refl _) (g := (mkF m 44 #[.val (.ref x), .val (.ref y), .val (.ref y)] [.ref t', .ref t])) rfl (by rw [hml]; rfl) c17 (argsL := [.ref t, .ref t']) (rest := []) rfl rfl (by show 2 * 0 + 0 ≤ _; decide) (hb hbytes d44) (⟨rfl, hx.2.2.2.1.mv X16.warmed.alike hh16, hx.2.2.2.2.1.ty, hy.2.2.2.1.mv X16.warmed.alike hh16, hy.2.2.2.2.1.ty⟩)
      obtain ⟨v, rfl, q18, hv⟩ := E18
      have iff := Cod.eqv hx.2.2.2.2.1 hy.2.2.2.2.1 hx.2.2.2.2.2 hy.2.2.2.2.2
      rcases hv with ⟨rfl, he⟩ | ⟨rfl, he⟩
      · have c19 : Steps p.tables e below (s₁.setTop (entryFrame m #[.ref x, .ref y] 3)) (T18.setTop (mkF m 55 #[.val (.ref x), .val (.ref y), .val (.ref y)] [.int 1])) := Steps.trans g18 (by
          refine XS.ifNo X18.here hexec rfl (hb hbytes d47) rfl (i0_eq_f (by decide)) ?_
          refine iconstV X18.here hexec rfl 1 (hb hbytes d50) (by decide) ?_
          refine XS.goto X18.here hexec rfl (pc0 := 51) rfl (hb hbytes d51) (by decide) rfl ?_
          exact Steps.refl _)
        exact ⟨T18, some (.int 1), _, _, _, X18, rfl, rfl, rfl, (fun h => by cases h), ⟨1, rfl, q18.trans hh16, Or.inl ⟨rfl, iff.mp he⟩⟩, fun fs hl => c19.trans (X18.ireturnOut hexec hret rfl (Or.inr (Or.inl rfl)) (hb hbytes d55) hl)⟩
      · have c19 : Steps p.tables e below (s₁.setTop (entryFrame m #[.ref x, .ref y] 3)) (T18.setTop (mkF m 55 #[.val (.ref x), .val (.ref y), .val (.ref y)] [.int 0])) := Steps.trans g18 (by
          refine XS.ifYes X18.here hexec rfl (pc0 := 47) rfl (hb hbytes d47) rfl (i0_eq_t rfl) (by decide) rfl ?_
          refine iconstV X18.here hexec rfl 0 (hb hbytes d54) (by decide) ?_
          exact Steps.refl _)
        exact ⟨T18, some (.int 0), _, _, _, X18, rfl, rfl, rfl, (fun h => by cases h), ⟨0, rfl, q18.trans hh16, Or.inr ⟨rfl, fun q => he (iff.mpr q)⟩⟩, fun fs hl => c19.trans (X18.ireturnOut hexec hret rfl (Or.inr (Or.inl rfl)) (hb hbytes d55) hl)⟩
    · have c13 : Steps p.tables e below (s₁.setTop (entryFrame m #[.ref x, .ref y] 3)) (T11.setTop (mkF m 55 #[.val (.ref x), .val (.ref y), .val (.ref y)] [.int 0])) := c12.trans (by
        refine XS.icmpYes X11.here hexec rfl (pc0 := 33) rfl (hb hbytes d33) rfl (ii_ne_t hcd) (by decide) rfl ?_
        refine iconstV X11.here hexec rfl 0 (hb hbytes d54) (by decide) ?_
        exact Steps.refl _)
      exact ⟨T11, some (.int 0), _, _, _, X11, rfl, rfl, rfl, (fun h => by cases h), ⟨0, rfl, hh11, Or.inr ⟨rfl, Cod.dif hx.2.2.2.2.1 hy.2.2.2.2.1 hcd⟩⟩, fun fs hl => c13.trans (X11.ireturnOut hexec hret rfl (Or.inr (Or.inl rfl)) (hb hbytes d55) hl)⟩
theorem pays {l : Launch} {R : Room} {p : Program} {e : Env} {below : List Frame} {s : State} {sargs : Array Value} {len W : Nat} (x t : Addr) (V : Cell) (cd : Int32) (n : Nat) (f : Nat → Int32) (y t' : Addr) (V' : Cell) (cd' : Int32) (k : Nat) (g : Nat → Int32) (z : Int32) (htab : tab.before sargs s = true) (hfr : 2 ≤ R.frames) (hlo : W + 28 ≤ R.locals) :
    Back l R p e below s sargs yN len W (fun A₁ a₁ => A₁.cells + 0 ≤ R.cells ∧ A₁.slots + 0 ≤ R.slots ∧ P x t V cd n f y t' V' cd' k g z a₁ A₁.U) (fun A₁ _ v₁ B₁ => Says01 (SameT n f k g) v₁ A₁.U B₁.U ∧ B₁.locs = A₁.locs ++ [] ∧ B₁.cells = A₁.cells + 0 ∧ B₁.slots = A₁.slots + 0) :=
  (law l x t V cd n f y t' V' cd' k g z).pays htab hfr (by omega)
end SEq
end StrChars
namespace StrChars.Road
open Jvm Sem ClassFile Op Lib Jvm.Stand Jvm.Free Jvm.Free.XT
open Jvm.Lib.Cold (StaticIs)
/-- the words of String.equals(Object) -/
abbrev wordsEq : List Jvm.Cond := [.code SEq.yN SEq.yB 3 (some .boolean), .initialized ST, .classLink ST 10 ST, .fieldLink ST 38 ST "COMPACT_STRINGS" "Z", .fieldLink ST 15 ST "coder" "B", .fieldLink ST 9 ST "value" "[B", .methodLink ST 541 LEq.yN, .static LEq.yN, .code LEq.yN LEq.yB 3 (some .boolean), .initialized "java/lang/StringLatin1"]
theorem tabEq_of {a : Array Value} {s : State} (h : ∀ w ∈ wordsEq, w.before a s = true) : SEq.tab.before a s = true := by
  have hl : LEq.tab.before a s = true := unparts (wk h (.code LEq.yN LEq.yB 3 (some .boolean))) (wks h (.initialized LEq.yN.cls :: LEq.site))
  have q := consq hl h
  exact unparts (wk q (.code SEq.yN SEq.yB 3 (some .boolean))) (wks q (.initialized SEq.yN.cls :: SEq.site))
theorem movedEq {Z s : State} {a0 args : Array Value} (hZ : Z.Warmed39 s.vm) (hw : ∀ d ∈ wordsEq, d.before a0 Z = true) : ∀ d ∈ wordsEq, d.before args s = true := fun d hd => by
  have t : ∀ d ∈ wordsEq, (d.onTables && d.keepsFace) = true := by decide +kernel
  exact RoadKit.mv hZ (hw d hd) (t d hd)
/-- the road's facts of a String, as the laws ask it -/
theorem txt_of {Z U : State} {a0 : Array Value} {kI : Nat} (wi : (Jvm.Cond.instantiable ST kI).before a0 Z = true) (al : Z.vm.Alike U.vm) {x t : Addr} {kb : ClassId} {cs : List Int32} {cd N2 : Int32} {vs : List Value} (E : RoadKit.Exa Z U.heap x ST) (V : RoadKit.Fld Z U.heap x ST "value" "[B" (.ref t)) (C : RoadKit.Fld Z U.heap x ST "coder" "B" (.int cd)) (K : RoadKit.Arv Z U.heap t kb .byte N2 vs (.int 0)) (hc : CodA cs cd N2 vs) (hb : ∀ c ∈ cs, ¬ c < 0 ∧ ¬ (65535 : Int32) < c) (l2 : cs.length ≤ 4000) :
    ∃ A, Txt x t A cd cs.length (fun j => cs.getD j 0) U := by
  obtain ⟨A, K1, K2, K3, K4, K5, K6⟩ := K
  have hcod := hc.cod (by omega) K3 K5
  obtain ⟨D, fV, fC, hB, F1, F2, g1, g2, -, -⟩ := strObj wi al E V C
  exact ⟨A, ⟨_, hB.2.2.1, D, hB.1, rfl, by cases q : D.vm <;> first | rfl | exact absurd q (hB.2.1.2 _)⟩, Has.of hB F1 g1, Has.of hB F2 g2, ⟨K1.1, State.isArrayOf_alike al K1.2.1, K1.2.2, by rcases hcod with ⟨-, q, -⟩ | ⟨-, q, -⟩ <;> omega⟩, hcod, fun j hj => by
    have e : cs.getD j 0 = cs[j] := by simp [List.getD_eq_getElem?_getD, hj]
    show ¬ cs.getD j 0 < 0 ∧ ¬ 65535 < cs.getD j 0
    rw [e]; exact hb _ (List.getElem_mem _)⟩
theorem same_list (cs ds : List Int32) : SameT cs.length (fun j => cs.getD j 0) ds.length (fun j => ds.getD j 0) ↔ cs = ds := by
  constructor
  · rintro ⟨e, q⟩
    refine List.ext_getElem e fun j h1 h2 => ?_
    have := q j h1
    simpa [List.getD_eq_getElem?_getD, h1, h2] using this
  · rintro rfl
    exact ⟨rfl, fun _ _ => rfl⟩
/-- **equals(Object) OF TWO SUCH STRINGS**: 1 just where the chars are the same -/
theorem eqW {p : Program} {l : Launch} {e : Env} {R : Room} {s : State} {args : Array Value} {below : List Frame} {len W : Nat} {Z : State} {a0 : Array Value} {h : Heap} (hZ : Z.Warmed39 s.vm) (hw : ∀ d ∈ wordsEq, d.before a0 Z = true) {kI : Nat} (wi : (Jvm.Cond.instantiable ST kI).before a0 Z = true)
    {x t : Addr} {kb : ClassId} {cs : List Int32} {cd N2 : Int32} {vs : List Value} (E : RoadKit.Exa Z h x ST) (V : RoadKit.Fld Z h x ST "value" "[B" (.ref t)) (C : RoadKit.Fld Z h x ST "coder" "B" (.int cd)) (K : RoadKit.Arv Z h t kb .byte N2 vs (.int 0)) (hc : CodA cs cd N2 vs) (hb : ∀ c ∈ cs, ¬ c < 0 ∧ ¬ (65535 : Int32) < c) (l2 : cs.length ≤ 4000)
    {y t' : Addr} {kb' : ClassId} {ds : List Int32} {cd' N2' : Int32} {vs' : List Value} (E' : RoadKit.Exa Z h y ST) (V' : RoadKit.Fld Z h y ST "value" "[B" (.ref t')) (C' : RoadKit.Fld Z h y ST "coder" "B" (.int cd')) (K' : RoadKit.Arv Z h t' kb' .byte N2' vs' (.int 0)) (hc' : CodA ds cd' N2' vs') (hb' : ∀ c ∈ ds, ¬ c < 0 ∧ ¬ (65535 : Int32) < c) (l2' : ds.length ≤ 4000)
    {z : Int32} (S : RoadKit.Sta Z h ST "COMPACT_STRINGS" "Z" (.int z)) (hz : ¬ z = 0) (hfr : 2 ≤ R.frames) (hlo : W + 28 ≤ R.locals) :
    Back l R p e below s args (⟨"java/lang/String", "equals", "(Ljava/lang/Object;)Z"⟩ : MethodName) len W (fun P a => a = #[.ref x, .ref y] ∧ P.U.heap = h ∧ P.cells + 0 ≤ R.cells ∧ P.slots + 0 ≤ R.slots)
      (fun P _ v B => ∃ L, (((v = some (.int 1) ∧ cs = ds) ∨ (v = some (.int 0) ∧ ¬ cs = ds)) ∧ L = [] ∧ B.U.heap = h) ∧ B.locs = P.locs ++ L ∧ B.cells = P.cells + 0 ∧ B.slots = P.slots + 0) := by
  intro m meth c P g ig mk a X hg hsize hdg hW hn hp'
  obtain ⟨rfl, rfl, r1, r2⟩ := hp'
  have al : Z.vm.Alike P.U.vm := hZ.alike.trans X.warmed.alike
  obtain ⟨A, hx⟩ := txt_of wi al E V C K hc hb l2
  obtain ⟨A', hy⟩ := txt_of wi al E' V' C' K' hc' hb' l2'
  obtain ⟨v, B, X', ⟨⟨w, hv, hh, hq⟩, hl, hk, hs⟩, st⟩ := SEq.pays x t A cd cs.length (fun j => cs.getD j 0) y t' A' cd' ds.length (fun j => ds.getD j 0) z (tabEq_of (movedEq hZ hw)) hfr hlo m meth c P g ig mk _ X hg hsize hdg hW hn ⟨r1, r2, rfl, hx, hy, sta_is al S, hz⟩
  refine ⟨v, B, X', ⟨[], ⟨?_, rfl, hh⟩, hl, hk, hs⟩, st⟩
  rcases hq with ⟨rfl, q⟩ | ⟨rfl, q⟩
  · exact Or.inl ⟨hv, (same_list cs ds).mp q⟩
  · exact Or.inr ⟨hv, fun e => q ((same_list cs ds).mpr e)⟩
end StrChars.Road
namespace StrChars.Road
open Jvm Sem ClassFile Op Lib Jvm.Stand Jvm.Free Jvm.Free.XT
open Jvm.Lib.Cold (StaticIs)
/-- what backV says of its String, as the contracts of this text ask it: cs's low bytes, coder 0 -/
theorem codOf {cs : List Int32} {n : Nat} (hn : cs.length = n) (hb : ∀ c ∈ cs, ¬ 255 < c) : CodA cs 0 (Int32.ofNat n) ((cs.map lo8).map Value.int) := Or.inl ⟨rfl, by rw [hn], by simp [List.map_map, Function.comp_def], hb⟩
end StrChars.Road
end Jvm.Pilot.@@N@@
namespace Jvm.Pilot.@@N@@
open Jvm Jvm.ClassFile Sem Op Lib Jvm.Free Jvm.Stand Jvm.LawKit Jvm.RoadKit Bundle Jvm.Pilot.@@N@@.Jvm.D
theorem wq {Z : State} {a0 : Array Value} {d : Jvm.Cond} (hw : ∀ d ∈ tables_1, d.before a0 Z = true) (i : Nat) (h : tables_1[i]? = some d) : d.before a0 Z = true := hw _ (List.mem_of_getElem? h)
def StrA (Z : State) (h : Heap) (x : Addr) (cs : List Int32) : Prop := ∃ (t : Addr) (kb : ClassId) (cd N2 : Int32) (vs : List Value), Exa Z h x "java/lang/String" ∧ Fld Z h x "java/lang/String" "value" "[B" (.ref t) ∧ Fld Z h x "java/lang/String" "coder" "B" (.int cd) ∧ Arv Z h t kb .byte N2 vs (.int 0) ∧ StrChars.Road.CodA cs cd N2 vs ∧ (∀ c ∈ cs, ¬ c < 0 ∧ ¬ (65535 : Int32) < c)
def Cmp (Z : State) (h : Heap) : Prop := ∃ z : Int32, Sta Z h "java/lang/String" "COMPACT_STRINGS" "Z" (.int z) ∧ ¬ z = 0
theorem Cmp.ext {Z : State} {h h' : Heap} (F : Cmp Z h) (E : Ext h h') : Cmp Z h' := by obtain ⟨z, S, q⟩ := F; exact ⟨z, S.ext E, q⟩
theorem StrA.ext {Z : State} {h h' : Heap} {x : Addr} {cs : List Int32} (F : StrA Z h x cs) (E : Ext h h') : StrA Z h' x cs := by
  obtain ⟨t, kb, cd, N2, vs, a1, a2, a3, a4, a5, a6⟩ := F
  exact ⟨t, kb, cd, N2, vs, a1.ext E, a2.ext E, a3.ext E, a4.ext E, a5, a6⟩
theorem StrA.exa {Z : State} {h : Heap} {x : Addr} {cs : List Int32} (F : StrA Z h x cs) : Exa Z h x "java/lang/String" := by obtain ⟨t, kb, cd, N2, vs, a1, -⟩ := F; exact a1
theorem up16 (cs : List Int32) (h : ∀ c ∈ cs, ¬ c < 0 ∧ ¬ (255 : Int32) < c) : ∀ c ∈ cs, ¬ c < 0 ∧ ¬ (65535 : Int32) < c := fun c hc => ⟨(h c hc).1, fun q => (h c hc).2 (by rw [Int32.lt_iff_toInt_lt] at q ⊢; have e1 : (65535 : Int32).toInt = 65535 := rfl; have e2 : (255 : Int32).toInt = 255 := rfl; omega)⟩
theorem and255_nat (x : Int32) : ∃ k : Fin 256, (x &&& (255 : Int32)) = Int32.ofNat k.val := by
  have h : (x &&& 255).toBitVec.toNat < 256 := by
    simp only [Int32.toBitVec_and, BitVec.toNat_and]
    exact Nat.lt_succ_of_le Nat.and_le_right
  refine ⟨⟨_, h⟩, ?_⟩
  apply Int32.toBitVec_inj.mp
  show _ = BitVec.ofNat 32 _
  rw [BitVec.ofNat_toNat]; simp
def C8 (c : Int32) : Prop := (¬ c < 0 ∧ ¬ (255 : Int32) < c) ∧ nar .char c = c
theorem c8_and (x : Int32) : C8 ((x &&& (255 : Int32)).toUInt32.toUInt16.toUInt32.toInt32) := by
  obtain ⟨k, e⟩ := and255_nat x
  rw [e]
  have t : ∀ k : Fin 256, (¬ ((Int32.ofNat k.val).toUInt32.toUInt16.toUInt32.toInt32) < 0 ∧ ¬ (255 : Int32) < ((Int32.ofNat k.val).toUInt32.toUInt16.toUInt32.toInt32)) ∧ nar .char ((Int32.ofNat k.val).toUInt32.toUInt16.toUInt32.toInt32) = ((Int32.ofNat k.val).toUInt32.toUInt16.toUInt32.toInt32) := by decide +kernel
  exact t k
theorem c8_nil : ∀ c ∈ ([] : List Int32), ¬ c < 0 ∧ ¬ (255 : Int32) < c := fun _ q => nomatch q
theorem c8_cons {c : Int32} {L : List Int32} (q : ¬ c < 0 ∧ ¬ (255 : Int32) < c) (r : ∀ c ∈ L, ¬ c < 0 ∧ ¬ (255 : Int32) < c) : ∀ x ∈ c :: L, ¬ x < 0 ∧ ¬ (255 : Int32) < x := fun x z => (List.mem_cons.mp z).elim (fun u => u ▸ q) (r x)
theorem strOf {Z : State} {h : Heap} {x t : Addr} {kb : ClassId} {cs : List Int32} {n : Nat} {N : Int32} (hn : cs.length = n) (hN : N = Int32.ofNat n) (hp : ∀ c ∈ cs, ¬ c < 0 ∧ ¬ (255 : Int32) < c) (E : Exa Z h x "java/lang/String") (V : Fld Z h x "java/lang/String" "value" "[B" (.ref t)) (C : Fld Z h x "java/lang/String" "coder" "B" (.int 0)) (K : Arv Z h t kb .byte N ((cs.map (fun c => c.toInt8.toInt32)).map Value.int) (.int 0)) : StrA Z h x cs := by
  subst hN
  exact ⟨t, kb, 0, _, _, E, V, C, K, StrChars.Road.codOf hn (fun c hc => (hp c hc).2), up16 cs hp⟩
theorem ws_new : ∀ d ∈ StrChars.Road.words, d ∈ tables_1 := by decide +kernel
theorem backS {p : Program} {l : Launch} {e : Env} {R : Room} {s : State} {args : Array Value} {below : List Frame} {len W : Nat} {Z : State} {a0 : Array Value} {h : Heap} (hZ : Z.Warmed39 s.vm) (hw : ∀ d ∈ tables_1, d.before a0 Z = true) {x b : Addr} {kC : ClassId} {cs : List Int32} {N : Int32} {n n0 : Nat} (hx0 : n0 ≤ x) (hh0 : n0 ≤ h.size) (E : Exa Z h x "java/lang/String") (V : Fld Z h x "java/lang/String" "value" "[B" .null) (C : Fld Z h x "java/lang/String" "coder" "B" (.int 0)) (K : Arv Z h b kC .char N (cs.map Value.int) (.int 0)) (CS : Cmp Z h) (hn : cs.length = n) (hN : N = Int32.ofNat n) (l0 : 0 < n) (l2 : n ≤ 4000) (hp : ∀ c ∈ cs, ¬ c < 0 ∧ ¬ (255 : Int32) < c) (hfr : 4 ≤ R.frames) (hlo : W + 65 ≤ R.locals) :
    Back l R p e below s args (⟨"java/lang/String", "<init>", "([C)V"⟩ : MethodName) len W (fun P a => a = #[.ref x, .ref b] ∧ P.U.heap = h ∧ P.cells + 1 ≤ R.cells ∧ P.slots + n ≤ R.slots)
      (fun P _ v B => ∃ L, (v = none ∧ Fr n0 L ∧ Keep h B.U.heap [x] ∧ StrA Z B.U.heap x cs) ∧ B.locs = P.locs ++ L ∧ B.cells = P.cells + 1 ∧ B.slots = P.slots + n) := by
  obtain ⟨z, S, hz⟩ := CS
  refine Back.mono (StrChars.Road.backV hZ (fun d hd => hw d (ws_new d hd)) (kI := 4) (wq hw 6 rfl) hx0 hh0 E V C K S hz hn hN l0 l2 hp rfl hfr hlo) (fun _ _ hp => hp) (fun P a v B _ hq => ?_)
  obtain ⟨L, ⟨q1, q2, q3, q4, q5, t, kb, -, -, -, q6, q7⟩, hl⟩ := hq
  exact ⟨L, ⟨q1, q2, q3, strOf hn hN hp q4 q6 q5 q7⟩, hl⟩
theorem ws_eq : ∀ d ∈ StrChars.Road.wordsEq, d ∈ tables_1 := by decide +kernel
theorem eqS {p : Program} {l : Launch} {e : Env} {R : Room} {s : State} {args : Array Value} {below : List Frame} {len W : Nat} {Z : State} {a0 : Array Value} {h : Heap} (hZ : Z.Warmed39 s.vm) (hw : ∀ d ∈ tables_1, d.before a0 Z = true) {x y : Addr} {cs ds : List Int32} (A : StrA Z h x cs) (B : StrA Z h y ds) (CS : Cmp Z h) (l1 : cs.length ≤ 4000) (l2 : ds.length ≤ 4000) (hfr : 2 ≤ R.frames) (hlo : W + 28 ≤ R.locals) :
    Back l R p e below s args (⟨"java/lang/String", "equals", "(Ljava/lang/Object;)Z"⟩ : MethodName) len W (fun P a => a = #[.ref x, .ref y] ∧ P.U.heap = h ∧ P.cells + 0 ≤ R.cells ∧ P.slots + 0 ≤ R.slots)
      (fun P _ v B => ∃ L, (((v = some (.int 1) ∧ cs = ds) ∨ (v = some (.int 0) ∧ ¬ cs = ds)) ∧ L = [] ∧ B.U.heap = h) ∧ B.locs = P.locs ++ L ∧ B.cells = P.cells + 0 ∧ B.slots = P.slots + 0) := by
  obtain ⟨z, S, hz⟩ := CS
  obtain ⟨t, kb, cd, N2, vs, a1, a2, a3, a4, a5, a6⟩ := A
  obtain ⟨t', kb', cd', N2', vs', b1, b2, b3, b4, b5, b6⟩ := B
  exact StrChars.Road.eqW hZ (fun d hd => hw d (ws_eq d hd)) (kI := 4) (wq hw 6 rfl) a1 a2 a3 a4 a5 a6 l1 b1 b2 b3 b4 b5 b6 l2 S hz hfr hlo
theorem pd_0 : parseMethodDescriptor "([CIILjava/lang/Void;)V" = some ⟨[(.array .char), .int, .int, (.object "java/lang/Void")], none⟩ := by decide +kernel
theorem pd_1 : parseMethodDescriptor "([C)V" = some ⟨[(.array .char)], none⟩ := by decide +kernel
theorem pd_2 : parseMethodDescriptor "(Ljava/lang/Object;)Z" = some ⟨[(.object "java/lang/Object")], some .boolean⟩ := by decide +kernel
theorem pd_3 : parseMethodDescriptor "(ICC)Ljava/lang/String;" = some ⟨[.int, .char, .char], some (.object "java/lang/String")⟩ := by decide +kernel
theorem pd_4 : parseMethodDescriptor "(I)Lcom/example/rhea/rhea/jq/Token$Kind;" = some ⟨[.int], some (.object "com/example/rhea/rhea/jq/Token$Kind")⟩ := by decide +kernel
theorem pd_5 : parseMethodDescriptor "(Lcom/example/rhea/rhea/jq/Token$Kind;Ljava/lang/String;ILjava/util/List;)V" = some ⟨[(.object "com/example/rhea/rhea/jq/Token$Kind"), (.object "java/lang/String"), .int, (.object "java/util/List")], none⟩ := by decide +kernel
theorem pd_6 : parseMethodDescriptor "(Lcom/example/rhea/rhea/jq/Token$Kind;Ljava/lang/String;)Z" = some ⟨[(.object "com/example/rhea/rhea/jq/Token$Kind"), (.object "java/lang/String")], some .boolean⟩ := by decide +kernel
def EL : List (String × Nat) := [("java/lang/String", 7)]
theorem ws_lit : ∀ d ∈ Bundle.stringAtoms, d ∈ tables_1 := by decide +kernel
theorem ew {Z : State} {a0 : Array Value} (hw : ∀ d ∈ tables_1, d.before a0 Z = true) : EW Z a0 EL := (EW.cons (wq hw 19 rfl) (by decide +kernel) EW.nil)
def Bg (Z : State) (h : Heap) (kw : Nat → Addr) : Prop := Sta Z h "com/example/rhea/rhea/jq/Token$Kind" "IDENTIFIER" "Lcom/example/rhea/rhea/jq/Token$Kind;" (.ref (kw 0)) ∧ Sta Z h "com/example/rhea/rhea/jq/Token$Kind" "KEYWORD" "Lcom/example/rhea/rhea/jq/Token$Kind;" (.ref (kw 1)) ∧ Sta Z h "com/example/rhea/rhea/jq/Token$Kind" "FIELD" "Lcom/example/rhea/rhea/jq/Token$Kind;" (.ref (kw 2)) ∧ Sta Z h "com/example/rhea/rhea/jq/Token$Kind" "VARIABLE" "Lcom/example/rhea/rhea/jq/Token$Kind;" (.ref (kw 3)) ∧ Sta Z h "com/example/rhea/rhea/jq/Token$Kind" "FORMAT" "Lcom/example/rhea/rhea/jq/Token$Kind;" (.ref (kw 4)) ∧ Sta Z h "com/example/rhea/rhea/jq/Token$Kind" "NUMBER" "Lcom/example/rhea/rhea/jq/Token$Kind;" (.ref (kw 5)) ∧ Sta Z h "com/example/rhea/rhea/jq/Token$Kind" "STRING" "Lcom/example/rhea/rhea/jq/Token$Kind;" (.ref (kw 6)) ∧ Sta Z h "com/example/rhea/rhea/jq/Token$Kind" "SYMBOL" "Lcom/example/rhea/rhea/jq/Token$Kind;" (.ref (kw 7)) ∧ Sta Z h "com/example/rhea/rhea/jq/Token$Kind" "INVALID" "Lcom/example/rhea/rhea/jq/Token$Kind;" (.ref (kw 8)) ∧ Sta Z h "com/example/rhea/rhea/jq/Token$Kind" "END" "Lcom/example/rhea/rhea/jq/Token$Kind;" (.ref (kw 9)) ∧ Fld Z h (kw 0) "java/lang/Enum" "ordinal" "I" (.int (0 : Int32)) ∧ Fld Z h (kw 1) "java/lang/Enum" "ordinal" "I" (.int (1 : Int32)) ∧ Fld Z h (kw 2) "java/lang/Enum" "ordinal" "I" (.int (2 : Int32)) ∧ Fld Z h (kw 3) "java/lang/Enum" "ordinal" "I" (.int (3 : Int32)) ∧ Fld Z h (kw 4) "java/lang/Enum" "ordinal" "I" (.int (4 : Int32)) ∧ Fld Z h (kw 5) "java/lang/Enum" "ordinal" "I" (.int (5 : Int32)) ∧ Fld Z h (kw 6) "java/lang/Enum" "ordinal" "I" (.int (6 : Int32)) ∧ Fld Z h (kw 7) "java/lang/Enum" "ordinal" "I" (.int (7 : Int32)) ∧ Fld Z h (kw 8) "java/lang/Enum" "ordinal" "I" (.int (8 : Int32)) ∧ Fld Z h (kw 9) "java/lang/Enum" "ordinal" "I" (.int (9 : Int32)) ∧ Cmp Z h
theorem Bg.ext {Z : State} {h h' : Heap} {kw : Nat → Addr} (B : Bg Z h kw) (E : Ext h h') : Bg Z h' kw := by
  obtain ⟨q0, q1, q2, q3, q4, q5, q6, q7, q8, q9, q10, q11, q12, q13, q14, q15, q16, q17, q18, q19, q20⟩ := B
  exact ⟨q0.ext E, q1.ext E, q2.ext E, q3.ext E, q4.ext E, q5.ext E, q6.ext E, q7.ext E, q8.ext E, q9.ext E, q10.ext E, q11.ext E, q12.ext E, q13.ext E, q14.ext E, q15.ext E, q16.ext E, q17.ext E, q18.ext E, q19.ext E, q20.ext E⟩
theorem Bg.ord {Z : State} {h : Heap} {kw : Nat → Addr} (B : Bg Z h kw) : ∀ k : Fin 10, Fld Z h (kw k.val) "java/lang/Enum" "ordinal" "I" (.int (Int32.ofNat k.val)) := by
  obtain ⟨q0, q1, q2, q3, q4, q5, q6, q7, q8, q9, q10, q11, q12, q13, q14, q15, q16, q17, q18, q19, q20⟩ := B
  intro k
  match k with
  | ⟨0, _⟩ => exact q10
  | ⟨1, _⟩ => exact q11
  | ⟨2, _⟩ => exact q12
  | ⟨3, _⟩ => exact q13
  | ⟨4, _⟩ => exact q14
  | ⟨5, _⟩ => exact q15
  | ⟨6, _⟩ => exact q16
  | ⟨7, _⟩ => exact q17
  | ⟨8, _⟩ => exact q18
  | ⟨9, _⟩ => exact q19
theorem Bg.inj {Z : State} {h : Heap} {kw : Nat → Addr} (B : Bg Z h kw) (i j : Fin 10) (q : kw i.val = kw j.val) : i = j := by
  by_cases e : i = j
  · exact e
  · exact absurd q (Fld.ne (B.ord i) (B.ord j) (fun z => e (by
      have t : ∀ a b : Fin 10, Int32.ofNat a.val = Int32.ofNat b.val → a = b := by decide +kernel
      exact t i j (Value.int.inj z))))
def kidx (i : Int32) : Nat := if i = (0 : Int32) then 0 else if i = (1 : Int32) then 1 else if i = (2 : Int32) then 2 else if i = (3 : Int32) then 3 else if i = (4 : Int32) then 4 else if i = (5 : Int32) then 5 else if i = (6 : Int32) then 6 else if i = (7 : Int32) then 7 else if i = (8 : Int32) then 8 else 9
theorem kidx_fin (k : Fin 10) : kidx (Int32.ofNat k.val) = k.val := by
  have t : ∀ k : Fin 10, kidx (Int32.ofNat k.val) = k.val := by decide +kernel
  exact t k
theorem fin10 (x : Int32) (h0 : 0 ≤ x.toInt) (h1 : x.toInt < 10) : ∃ k : Fin 10, x = Int32.ofNat k.val := by
  refine ⟨⟨x.toInt.toNat, by omega⟩, ?_⟩
  apply Int32.toInt_inj.mp
  show _ = (Int32.ofNat x.toInt.toNat).toInt
  rw [Int32.toInt_ofNat_small (show x.toInt.toNat < 2 ^ 31 by omega)]
  omega
theorem rem10 (x : Int32) : ∃ k : Fin 10, (x &&& (65535 : Int32)) % (10 : Int32) = Int32.ofNat k.val := by
  have a := c_mask x 65535 16 (by decide) (by decide)
  have b := (c_irem (x &&& 65535) 10 10 (by decide)).1 (by rw [a]; exact Int.emod_nonneg _ (by decide))
  exact fin10 _ (by rw [b]; exact Int.emod_nonneg _ (by decide)) (by rw [b]; exact Int.emod_lt_of_pos _ (by decide))
theorem acN (v : Value) : XT.acmp .ne v v = false := decide_eq_false (fun q => q rfl)
theorem acY {a b : Addr} (h : ¬ a = b) : XT.acmp .ne (.ref a) (.ref b) = true := decide_eq_true (fun q => h (Value.ref.inj q))
def strL (n c0 c1 : Int32) : List Int32 := if n = 0 then [] else if n = 1 then [c0] else [c0, c1]
theorem strL_len (n c0 c1 : Int32) : (strL n c0 c1).length ≤ 4000 := by unfold strL; split <;> (try split) <;> exact Nat.le_of_ble_eq_true rfl
theorem dn4_0 : decode jdk_42_method_149_code 0 = .ok (.aload_n 0, 1) := by decide +kernel
theorem dn4_1 : decode jdk_42_method_149_code 1 = .ok (.invokespecial 1, 3) := by decide +kernel
theorem dn4_4 : decode jdk_42_method_149_code 4 = .ok (.iload_n 3, 1) := by decide +kernel
theorem dn4_5 : decode jdk_42_method_149_code 5 = .ok (.ifCond .ne 22, 3) := by decide +kernel
theorem dn4_8 : decode jdk_42_method_149_code 8 = .ok (.aload_n 0, 1) := by decide +kernel
theorem dn4_9 : decode jdk_42_method_149_code 9 = .ok (.ldc 7, 2) := by decide +kernel
theorem dn4_11 : decode jdk_42_method_149_code 11 = .ok (.getfield 9, 3) := by decide +kernel
theorem dn4_14 : decode jdk_42_method_149_code 14 = .ok (.putfield 9, 3) := by decide +kernel
theorem dn4_17 : decode jdk_42_method_149_code 17 = .ok (.aload_n 0, 1) := by decide +kernel
theorem dn4_18 : decode jdk_42_method_149_code 18 = .ok (.ldc 7, 2) := by decide +kernel
theorem dn4_20 : decode jdk_42_method_149_code 20 = .ok (.getfield 15, 3) := by decide +kernel
theorem dn4_23 : decode jdk_42_method_149_code 23 = .ok (.putfield 15, 3) := by decide +kernel
theorem dn4_26 : decode jdk_42_method_149_code 26 = .ok (.return_, 1) := by decide +kernel
theorem dn4_27 : decode jdk_42_method_149_code 27 = .ok (.getstatic 38, 3) := by decide +kernel
theorem dn4_30 : decode jdk_42_method_149_code 30 = .ok (.ifCond .eq 28, 3) := by decide +kernel
theorem dn4_33 : decode jdk_42_method_149_code 33 = .ok (.aload_n 1, 1) := by decide +kernel
theorem dn4_34 : decode jdk_42_method_149_code 34 = .ok (.iload_n 2, 1) := by decide +kernel
theorem dn4_35 : decode jdk_42_method_149_code 35 = .ok (.iload_n 3, 1) := by decide +kernel
theorem dn4_36 : decode jdk_42_method_149_code 36 = .ok (.invokestatic 177, 3) := by decide +kernel
theorem dn4_39 : decode jdk_42_method_149_code 39 = .ok (.astore 5, 2) := by decide +kernel
theorem dn4_41 : decode jdk_42_method_149_code 41 = .ok (.aload_n 0, 1) := by decide +kernel
theorem dn4_42 : decode jdk_42_method_149_code 42 = .ok (.aload 5, 2) := by decide +kernel
theorem dn4_44 : decode jdk_42_method_149_code 44 = .ok (.iload_n 3, 1) := by decide +kernel
theorem dn4_45 : decode jdk_42_method_149_code 45 = .ok (.invokestatic 47, 3) := by decide +kernel
theorem dn4_48 : decode jdk_42_method_149_code 48 = .ok (.putfield 15, 3) := by decide +kernel
theorem dn4_51 : decode jdk_42_method_149_code 51 = .ok (.aload_n 0, 1) := by decide +kernel
theorem dn4_52 : decode jdk_42_method_149_code 52 = .ok (.aload 5, 2) := by decide +kernel
theorem dn4_54 : decode jdk_42_method_149_code 54 = .ok (.putfield 9, 3) := by decide +kernel
theorem dn4_57 : decode jdk_42_method_149_code 57 = .ok (.return_, 1) := by decide +kernel
theorem dn4_58 : decode jdk_42_method_149_code 58 = .ok (.aload_n 0, 1) := by decide +kernel
theorem dn4_59 : decode jdk_42_method_149_code 59 = .ok (.iconst 1, 1) := by decide +kernel
theorem dn4_60 : decode jdk_42_method_149_code 60 = .ok (.putfield 15, 3) := by decide +kernel
theorem dn4_63 : decode jdk_42_method_149_code 63 = .ok (.aload_n 0, 1) := by decide +kernel
theorem dn4_64 : decode jdk_42_method_149_code 64 = .ok (.aload_n 1, 1) := by decide +kernel
theorem dn4_65 : decode jdk_42_method_149_code 65 = .ok (.iload_n 2, 1) := by decide +kernel
theorem dn4_66 : decode jdk_42_method_149_code 66 = .ok (.iload_n 3, 1) := by decide +kernel
theorem dn4_67 : decode jdk_42_method_149_code 67 = .ok (.invokestatic 180, 3) := by decide +kernel
theorem dn4_70 : decode jdk_42_method_149_code 70 = .ok (.putfield 9, 3) := by decide +kernel
theorem dn4_73 : decode jdk_42_method_149_code 73 = .ok (.return_, 1) := by decide +kernel
theorem pn_new4e : plainName "java/lang/String" = true := by first | (simp [plainName, overriddenIn]; done) | decide +kernel
theorem ef_new4e (m : MethodId) (x0 : Addr) (x1 : Addr) (x2 : Int32) (x3 : Int32) : entryFrame m #[(.ref x0), (.ref x1), (.int x2), (.int x3), .null] 6 = mkF m 0 #[.val (.ref x0), .val (.ref x1), .val (.int x2), .val (.int x3), .val .null, .unset] [] := by first | (simp [entryFrame, mkF, argsToLocals, Value.category]; done) | rfl
def Q_new4e (Z : State) (ta tb : Addr) (h0 : Heap) (n0 : Nat) (v : Option Value) (h : Heap) (L : List Loc) : Prop := v = none ∧ Fr n0 L ∧ Keep h0 h [ta] ∧ StrA Z h ta []
set_option maxRecDepth 65536 in
set_option maxHeartbeats 40000000 in
theorem rm_new4e (l : Launch) (Z : State) (a0 : Array Value) (hw : ∀ d ∈ tables_1, d.before a0 Z = true) (ws : List Jvm.Cond) (ta tb : Addr) (h0 : Heap) (n0 : Nat) (Z0 : n0 ≤ h0.size) (hthis : n0 ≤ ta) (E1 : Exa Z h0 ta "java/lang/String") (F1 : Fld Z h0 ta "java/lang/String" "value" "[B" .null) (F2 : Fld Z h0 ta "java/lang/String" "coder" "B" (.int (0 : Int32))) :
    MetFree l (⟨"java/lang/String", "<init>", "([CIILjava/lang/Void;)V"⟩ : MethodName) (head1 (Jvm.Cond.code (⟨"java/lang/String", "<init>", "([CIILjava/lang/Void;)V"⟩ : MethodName) jdk_42_method_149_code 6 none :: ws) ({ frames := 1, cells := 4, slots := 8, locals := 12 } : Room)) (fun a U => a = #[(.ref ta), (.ref tb), (.int (0 : Int32)), (.int (0 : Int32)), .null] ∧ Z.Warmed39 U.vm ∧ U.heap = h0 ∧ CHv Z EL U.vm h0) (fun _ _ _ _ _ => True) (fun _ U o U' => ∃ v L, o = .returned v ∧ Q_new4e Z ta tb h0 n0 v U'.heap L ∧ CHr Z EL U.vm U.heap U'.vm U'.heap ∧ ReturnedEndW U o U' L ({ frames := 1, cells := 4, slots := 8, locals := 12 } : Room).cells ({ frames := 1, cells := 4, slots := 8, locals := 12 } : Room).slots) := by
  refine MetFree.of_bodySF (plainFor_of_name pn_new4e) hisR ?_
  intro p e s m args below meth c s₁ Bd hml0 hP hK
  obtain ⟨rfl, hZ, hh, H0⟩ := hP
  have hx := Bd.exec
  have hby := Bd.bytes
  have hml : c.maxLocals = 6 := hml0
  have hown : s.vm.findClass "java/lang/String" = some m.cls := findClass_of_methodNamed Bd.named
  have hnm := (name_of_methodNamed Bd.named Bd.method).1
  have X0 : Stand p l e ({ frames := 1, cells := 4, slots := 8, locals := 12 } : Room) (s.setVm s.vm) m #[(.ref ta), (.ref tb), (.int (0 : Int32)), (.int (0 : Int32)), .null] below meth c s₁ [] 0 0 := Stand.of_body Bd
  have e0 : s₁.heap = h0 := by rw [← hh, Bd.state]; rfl
  have N0 := Fr.nil n0
  have hS0 : s.Since s.vm 0 := (State.WarmedH.refl s).since _
  have R0 : CHr Z EL s.vm s.heap s.vm h0 := by rw [hh]; exact CHr.refl H0
  have hZ : Z.Warmed39 (s.setVm s.vm).vm := hZ
  have hown : (s.setVm s.vm).vm.findClass "java/lang/String" = some m.cls := hown
  have hEL := ew hw
  have wS : ∀ d ∈ Bundle.stringAtoms, d.before a0 Z = true := fun d hd => hw d (ws_lit d hd)
  show Rch p e below s₁ (entryFrame m #[(.ref ta), (.ref tb), (.int (0 : Int32)), (.int (0 : Int32)), .null] 6) (fun U o => ∃ v L, o = .returned v ∧ Q_new4e Z ta tb h0 n0 v U.heap L ∧ CHr Z EL s.vm s.heap U.vm U.heap ∧ ReturnedEndW s o U L ({ frames := 1, cells := 4, slots := 8, locals := 12 } : Room).cells ({ frames := 1, cells := 4, slots := 8, locals := 12 } : Room).slots)
  refine Rch.cast (ef_new4e m ta tb (0 : Int32) (0 : Int32)) ?_
  show Rch p e below s₁ (mkF m 0 #[.val (.ref ta), .val (.ref tb), .val (.int (0 : Int32)), .val (.int (0 : Int32)), .val .null, .unset] []) _
  have hsl : Jvm.RoadKit.slotOf Z "java/lang/String" "value" "[B" ≠ Jvm.RoadKit.slotOf Z "java/lang/String" "coder" "B" := slot_ne (C := "java/lang/String") (Or.inr (wq hw 21 rfl)) (Or.inr (wq hw 22 rfl)) (by decide) (t := .array .byte) (t' := .byte) (by decide) (by decide)
  refine Rch.st (fun _ k => XS.aloadN X0.here hx rfl (hb hby dn4_0) rfl rfl k) ?_
  show Rch p e below s₁ (mkF m 1 #[.val (.ref ta), .val (.ref tb), .val (.int (0 : Int32)), .val (.int (0 : Int32)), .val .null, .unset] [(.ref ta)]) _
  obtain ⟨T1, X1, e1, st1⟩ := initO X0 hx hZ hown (wq hw 16 rfl) (wq hw 17 rfl) (wq hw 18 rfl) e0 (g := (mkF m 1 #[.val (.ref ta), .val (.ref tb), .val (.int (0 : Int32)), .val (.int (0 : Int32)), .val .null, .unset] [(.ref ta)])) rfl (by rw [hml]; rfl) rfl (hb hby dn4_1) (by decide) (W := 0) (by show 2 * 0 + _ ≤ _; exact Nat.le_of_eq rfl) (by decide)
  refine Rch.st st1 ?_
  show Rch p e below T1 (mkF m 4 #[.val (.ref ta), .val (.ref tb), .val (.int (0 : Int32)), .val (.int (0 : Int32)), .val .null, .unset] []) _
  refine Rch.st (fun _ k => XS.iloadN X1.here hx rfl (hb hby dn4_4) rfl k) ?_
  show Rch p e below T1 (mkF m 5 #[.val (.ref ta), .val (.ref tb), .val (.int (0 : Int32)), .val (.int (0 : Int32)), .val .null, .unset] [(.int (0 : Int32))]) _
  refine Rch.st (fun _ k => XS.ifNo X1.here hx rfl (hb hby dn4_5) rfl (by decide : ifCond.holds .ne (0 : Int32) = false) k) ?_
  show Rch p e below T1 (mkF m 8 #[.val (.ref ta), .val (.ref tb), .val (.int (0 : Int32)), .val (.int (0 : Int32)), .val .null, .unset] []) _
  refine Rch.st (fun _ k => XS.aloadN X1.here hx rfl (hb hby dn4_8) rfl rfl k) ?_
  show Rch p e below T1 (mkF m 9 #[.val (.ref ta), .val (.ref tb), .val (.int (0 : Int32)), .val (.int (0 : Int32)), .val .null, .unset] [(.ref ta)]) _
  obtain ⟨a2, T2, h2, kk2, b2, kb2, X2, e2, E2, hS2, hk2, hZ2, hown2, EX2, CO2, VA2, AR2, la2, lb2, CR2, LT2, SF2, st2⟩ := ldcCH X1 hx hZ hown (wq hw 19 rfl) wS e1 hS0 (Nat.zero_le _) hEL (by simp [EL]) R0.1 (vs := ([] : List Int32).map (fun c => Value.int c.toInt8.toInt32)) (z := (0 : Int32)) ⟨by decide, by decide⟩ (by decide) rfl (g := (mkF m 9 #[.val (.ref ta), .val (.ref tb), .val (.int (0 : Int32)), .val (.int (0 : Int32)), .val .null, .unset] [(.ref ta)])) rfl (hb hby dn4_9) (n := 0) (by decide) (by decide) (by decide) (by decide)
  have Ex3 : Ext h0 h2 := E2
  have R2 := R0.trans CR2
  have Q2 : StrA Z h2 a2 ([] : List Int32) := strOf (n := 0) rfl rfl (by decide) EX2 VA2 CO2 (by rw [List.map_map]; exact AR2)
  refine Rch.st st2 ?_
  show Rch p e below T2 (mkF m 11 #[.val (.ref ta), .val (.ref tb), .val (.int (0 : Int32)), .val (.int (0 : Int32)), .val .null, .unset] [(.ref a2), (.ref ta)]) _
  have E2 := E1.ext Ex3
  have F3 := F1.ext Ex3
  have F4 := F2.ext Ex3
  have S0 : Safe Z EL T2.vm h2 ta := Safe.blank (State.Warmed39.alike hZ2) E2 F3
  obtain ⟨T4, X4, e4, st4⟩ := getF X2 hx hZ2 hown2 (host := "") (Or.inl (wq hw 25 rfl)) Via.refl e2 VA2 (g := (mkF m 11 #[.val (.ref ta), .val (.ref tb), .val (.int (0 : Int32)), .val (.int (0 : Int32)), .val .null, .unset] [(.ref a2), (.ref ta)])) rfl rfl (hb hby dn4_11)
  refine Rch.st st4 ?_
  show Rch p e below T4 (mkF m 14 #[.val (.ref ta), .val (.ref tb), .val (.int (0 : Int32)), .val (.int (0 : Int32)), .val .null, .unset] [(.ref b2), (.ref ta)]) _
  obtain ⟨T5, h5, X5, e5, W5, st5⟩ := putF X4 hx hZ2 hown2 (host := "") (Or.inl (wq hw 25 rfl)) Via.refl e4 F3 E2 (Or.inr ⟨(wq hw 21 rfl), rfl, hnm⟩) (wq hw 6 rfl) (ty := (.array .byte)) (by decide) rfl rfl (g := (mkF m 14 #[.val (.ref ta), .val (.ref tb), .val (.int (0 : Int32)), .val (.int (0 : Int32)), .val .null, .unset] [(.ref b2), (.ref ta)])) rfl rfl (hb hby dn4_14)
  have N5 := Fr.snoc X5 N0 hthis
  refine Rch.st st5 ?_
  show Rch p e below T5 (mkF m 17 #[.val (.ref ta), .val (.ref tb), .val (.int (0 : Int32)), .val (.int (0 : Int32)), .val .null, .unset] []) _
  have ne1 : ta ≠ b2 := E2.neArv AR2 (wq hw 6 rfl)
  have E5 := E2.wr W5
  have F5 := F3.same W5
  have F6 := F4.other W5 (Or.inr (Ne.symm hsl))
  have A5 := AR2.other W5 (Ne.symm ne1)
  have S1 := Safe.wr W5 S0 R2.1 S0
  have R6 := R2.trans (CHr.wr W5 S0 R2.1)
  have hk6 := Nat.le_trans hk2 (Keep.of_wr W5).1
  refine Rch.st (fun _ k => XS.aloadN X5.here hx rfl (hb hby dn4_17) rfl rfl k) ?_
  show Rch p e below T5 (mkF m 18 #[.val (.ref ta), .val (.ref tb), .val (.int (0 : Int32)), .val (.int (0 : Int32)), .val .null, .unset] [(.ref ta)]) _
  obtain ⟨a7, T7, h7, kk7, b7, kb7, X7, e7, E7, hS7, hk7, hZ7, hown7, EX7, CO7, VA7, AR7, la7, lb7, CR7, LT7, SF7, st7⟩ := ldcCH X5 hx hZ2 hown2 (wq hw 19 rfl) wS e5 hS2 hk6 hEL (by simp [EL]) R6.1 (vs := ([] : List Int32).map (fun c => Value.int c.toInt8.toInt32)) (z := (0 : Int32)) ⟨by decide, by decide⟩ (by decide) rfl (g := (mkF m 18 #[.val (.ref ta), .val (.ref tb), .val (.int (0 : Int32)), .val (.int (0 : Int32)), .val .null, .unset] [(.ref ta)])) rfl (hb hby dn4_18) (n := 0) (by decide) (by decide) (by decide) (by decide)
  have Ex8 : Ext h5 h7 := E7
  have R7 := R6.trans CR7
  have Q7 : StrA Z h7 a7 ([] : List Int32) := strOf (n := 0) rfl rfl (by decide) EX7 VA7 CO7 (by rw [List.map_map]; exact AR7)
  refine Rch.st st7 ?_
  show Rch p e below T7 (mkF m 20 #[.val (.ref ta), .val (.ref tb), .val (.int (0 : Int32)), .val (.int (0 : Int32)), .val .null, .unset] [(.ref a7), (.ref ta)]) _
  have S2 := CR7.safe E5.lt S1
  have E7 := E5.ext Ex8
  have F7 := F5.ext Ex8
  have F8 := F6.ext Ex8
  have A7 := A5.ext Ex8
  obtain ⟨T9, X9, e9, st9⟩ := getF X7 hx hZ7 hown7 (host := "") (Or.inl (wq hw 26 rfl)) Via.refl e7 CO7 (g := (mkF m 20 #[.val (.ref ta), .val (.ref tb), .val (.int (0 : Int32)), .val (.int (0 : Int32)), .val .null, .unset] [(.ref a7), (.ref ta)])) rfl rfl (hb hby dn4_20)
  refine Rch.st st9 ?_
  show Rch p e below T9 (mkF m 23 #[.val (.ref ta), .val (.ref tb), .val (.int (0 : Int32)), .val (.int (0 : Int32)), .val .null, .unset] [(.int (0 : Int32)), (.ref ta)]) _
  obtain ⟨T10, h10, X10, e10, W10, st10⟩ := putF X9 hx hZ7 hown7 (host := "") (Or.inl (wq hw 26 rfl)) Via.refl e9 F8 E7 (Or.inr ⟨(wq hw 22 rfl), rfl, hnm⟩) (wq hw 6 rfl) (ty := .byte) (by decide) rfl rfl (g := (mkF m 23 #[.val (.ref ta), .val (.ref tb), .val (.int (0 : Int32)), .val (.int (0 : Int32)), .val .null, .unset] [(.int (0 : Int32)), (.ref ta)])) rfl rfl (hb hby dn4_23)
  have N10 := Fr.snoc X10 N5 hthis
  refine Rch.st st10 ?_
  show Rch p e below T10 (mkF m 26 #[.val (.ref ta), .val (.ref tb), .val (.int (0 : Int32)), .val (.int (0 : Int32)), .val .null, .unset] []) _
  have R11 := R7.trans (CHr.wr W10 S2 R7.1)
  have hk11 := Nat.le_trans hk7 (Keep.of_wr W10).1
  have K9 : Keep h0 h10 [ta] := ((((Keep.refl h0 [ta]).ext Ex3).wr W5 (Or.inl (List.mem_singleton.mpr rfl))).ext Ex8).wr W10 (Or.inl (List.mem_singleton.mpr rfl))
  have S9 : StrA Z h10 ta [] := strOf (n := 0) rfl rfl c8_nil (E7.wr W10) (F7.other W10 (Or.inr hsl)) (F8.same W10) (A7.other W10 (Ne.symm ne1))
  exact Rch.finW (Q := Q_new4e Z ta tb h0 n0) X10 hZ7 hEL hS7 (by rw [e10]; exact hk11) e10 R11 (v := none) (fun _ => rfl) (BodyLoose.notSynchronized Bd) (fun fs hr => X10.returnOut hx Bd.returns (hb hby dn4_26) hr) (by rw [e10]; exact ⟨rfl, N10, K9, S9⟩) (by decide) (by decide)
theorem dn1_0 : decode jdk_42_method_3_code 0 = .ok (.aload_n 0, 1) := by decide +kernel
theorem dn1_1 : decode jdk_42_method_3_code 1 = .ok (.aload_n 1, 1) := by decide +kernel
theorem dn1_2 : decode jdk_42_method_3_code 2 = .ok (.iconst 0, 1) := by decide +kernel
theorem dn1_3 : decode jdk_42_method_3_code 3 = .ok (.aload_n 1, 1) := by decide +kernel
theorem dn1_4 : decode jdk_42_method_3_code 4 = .ok (.arraylength, 1) := by decide +kernel
theorem dn1_5 : decode jdk_42_method_3_code 5 = .ok (.aconst_null, 1) := by decide +kernel
theorem dn1_6 : decode jdk_42_method_3_code 6 = .ok (.invokespecial 27, 3) := by decide +kernel
theorem dn1_9 : decode jdk_42_method_3_code 9 = .ok (.return_, 1) := by decide +kernel
theorem pn_new1e : plainName "java/lang/String" = true := by first | (simp [plainName, overriddenIn]; done) | decide +kernel
theorem ef_new1e (m : MethodId) (x0 : Addr) (x1 : Addr) : entryFrame m #[(.ref x0), (.ref x1)] 2 = mkF m 0 #[.val (.ref x0), .val (.ref x1)] [] := by first | (simp [entryFrame, mkF, argsToLocals, Value.category]; done) | rfl
def Q_new1e (Z : State) (ta tb : Addr) (kc : ClassId) (h0 : Heap) (n0 : Nat) (v : Option Value) (h : Heap) (L : List Loc) : Prop := v = none ∧ Fr n0 L ∧ Keep h0 h [ta] ∧ StrA Z h ta []
set_option maxRecDepth 65536 in
set_option maxHeartbeats 40000000 in
theorem rm_new1e (l : Launch) (Z : State) (a0 : Array Value) (hw : ∀ d ∈ tables_1, d.before a0 Z = true) (ws : List Jvm.Cond) (ta tb : Addr) (kc : ClassId) (h0 : Heap) (n0 : Nat) (Z0 : n0 ≤ h0.size) (hthis : n0 ≤ ta) (E1 : Exa Z h0 ta "java/lang/String") (F1 : Fld Z h0 ta "java/lang/String" "value" "[B" .null) (F2 : Fld Z h0 ta "java/lang/String" "coder" "B" (.int (0 : Int32))) (M : Arv Z h0 tb kc .char (0 : Int32) [] (.int (0 : Int32))) :
    MetFree l (⟨"java/lang/String", "<init>", "([C)V"⟩ : MethodName) (head1 (Jvm.Cond.code (⟨"java/lang/String", "<init>", "([C)V"⟩ : MethodName) jdk_42_method_3_code 2 none :: ws) ({ frames := 2, cells := 4, slots := 8, locals := 29 } : Room)) (fun a U => a = #[(.ref ta), (.ref tb)] ∧ Z.Warmed39 U.vm ∧ U.heap = h0 ∧ CHv Z EL U.vm h0) (fun _ _ _ _ _ => True) (fun _ U o U' => ∃ v L, o = .returned v ∧ Q_new1e Z ta tb kc h0 n0 v U'.heap L ∧ CHr Z EL U.vm U.heap U'.vm U'.heap ∧ ReturnedEndW U o U' L ({ frames := 2, cells := 4, slots := 8, locals := 29 } : Room).cells ({ frames := 2, cells := 4, slots := 8, locals := 29 } : Room).slots) := by
  refine MetFree.of_bodySF (plainFor_of_name pn_new1e) hisR ?_
  intro p e s m args below meth c s₁ Bd hml0 hP hK
  obtain ⟨rfl, hZ, hh, H0⟩ := hP
  have hx := Bd.exec
  have hby := Bd.bytes
  have hml : c.maxLocals = 2 := hml0
  have hown : s.vm.findClass "java/lang/String" = some m.cls := findClass_of_methodNamed Bd.named
  have hnm := (name_of_methodNamed Bd.named Bd.method).1
  have X0 : Stand p l e ({ frames := 2, cells := 4, slots := 8, locals := 29 } : Room) (s.setVm s.vm) m #[(.ref ta), (.ref tb)] below meth c s₁ [] 0 0 := Stand.of_body Bd
  have e0 : s₁.heap = h0 := by rw [← hh, Bd.state]; rfl
  have N0 := Fr.nil n0
  have hS0 : s.Since s.vm 0 := (State.WarmedH.refl s).since _
  have R0 : CHr Z EL s.vm s.heap s.vm h0 := by rw [hh]; exact CHr.refl H0
  have hZ : Z.Warmed39 (s.setVm s.vm).vm := hZ
  have hown : (s.setVm s.vm).vm.findClass "java/lang/String" = some m.cls := hown
  have hEL := ew hw
  have wS : ∀ d ∈ Bundle.stringAtoms, d.before a0 Z = true := fun d hd => hw d (ws_lit d hd)
  show Rch p e below s₁ (entryFrame m #[(.ref ta), (.ref tb)] 2) (fun U o => ∃ v L, o = .returned v ∧ Q_new1e Z ta tb kc h0 n0 v U.heap L ∧ CHr Z EL s.vm s.heap U.vm U.heap ∧ ReturnedEndW s o U L ({ frames := 2, cells := 4, slots := 8, locals := 29 } : Room).cells ({ frames := 2, cells := 4, slots := 8, locals := 29 } : Room).slots)
  refine Rch.cast (ef_new1e m ta tb) ?_
  show Rch p e below s₁ (mkF m 0 #[.val (.ref ta), .val (.ref tb)] []) _
  refine Rch.st (fun _ k => XS.aloadN X0.here hx rfl (hb hby dn1_0) rfl rfl k) ?_
  show Rch p e below s₁ (mkF m 1 #[.val (.ref ta), .val (.ref tb)] [(.ref ta)]) _
  refine Rch.st (fun _ k => XS.aloadN X0.here hx rfl (hb hby dn1_1) rfl rfl k) ?_
  show Rch p e below s₁ (mkF m 2 #[.val (.ref ta), .val (.ref tb)] [(.ref tb), (.ref ta)]) _
  refine Rch.st (fun _ k => XS.iconst X0.here hx rfl (hb hby dn1_2)  k) ?_
  show Rch p e below s₁ (mkF m 3 #[.val (.ref ta), .val (.ref tb)] [(.int (0 : Int32)), (.ref tb), (.ref ta)]) _
  refine Rch.st (fun _ k => XS.aloadN X0.here hx rfl (hb hby dn1_3) rfl rfl k) ?_
  show Rch p e below s₁ (mkF m 4 #[.val (.ref ta), .val (.ref tb)] [(.ref tb), (.int (0 : Int32)), (.ref tb), (.ref ta)]) _
  refine Rch.st (alenA X0 hx hZ e0 M.arh (g := (mkF m 4 #[.val (.ref ta), .val (.ref tb)] [(.ref tb), (.int (0 : Int32)), (.ref tb), (.ref ta)])) rfl rfl (hb hby dn1_4)) ?_
  show Rch p e below s₁ (mkF m 5 #[.val (.ref ta), .val (.ref tb)] [(.int (0 : Int32)), (.int (0 : Int32)), (.ref tb), (.ref ta)]) _
  refine Rch.st (fun _ k => XS.aconstNull X0.here hx rfl (hb hby dn1_5)  k) ?_
  show Rch p e below s₁ (mkF m 6 #[.val (.ref ta), .val (.ref tb)] [.null, (.int (0 : Int32)), (.int (0 : Int32)), (.ref tb), (.ref ta)]) _
  obtain ⟨_, _, ⟨T12, L12, k12, n12⟩, -, X12_, hS12_, hg12_, ⟨Lc12, hQ12, l12, y12, z12, CR12⟩, st12⟩ := X0.specialBackS hx (y := (⟨"java/lang/String", "<init>", "([CIILjava/lang/Void;)V"⟩ : MethodName)) rfl hown (mvT hZ (wq hw 12 rfl)) (mvT hZ (wq hw 13 rfl)) (mvT hZ (wq hw 15 rfl)) (by decide) (backOfSH (W := 0) (rm_new4e l Z a0 hw [] ta tb h0 n0 Z0 hthis E1 F1 F2) hZ (wq hw 15 rfl) (wq hw 7 rfl) (by decide) (by decide) hEL R0.1) (g := (mkF m 6 #[.val (.ref ta), .val (.ref tb)] [.null, (.int (0 : Int32)), (.int (0 : Int32)), (.ref tb), (.ref ta)])) rfl (by rw [hml]; rfl) (Steps.refl _) (a := ta) (argsL := [(.ref tb), (.int (0 : Int32)), (.int (0 : Int32)), .null]) (rest := []) (lenOf pd_0 rfl) rfl (by show 2 * 0 + _ ≤ _; exact Nat.le_of_eq rfl) (hb hby dn1_6) (fun _ _ => ⟨rfl, e0, (by decide : 0 + 4 ≤ _), (by decide : 0 + 8 ≤ _)⟩)
  dsimp only [Pt.U, Pt.locs, Pt.cells, Pt.slots] at X12_ hS12_ hg12_ l12 y12 z12 st12 hQ12 CR12
  subst l12 y12 z12
  obtain ⟨X12, hS12, hZ12, hown12⟩ := rebS hS0 (by rw [e0]; exact (Nat.zero_le _)) X12_ hS12_ hg12_ hZ hown
  obtain ⟨rfl, Nq12, K12, Q12⟩ := hQ12
  have N12 := Fr.app N0 Nq12
  have R12 := R0.trans CR12
  refine Rch.go st12 ?_
  show Rch p e below T12 (mkF m 9 #[.val (.ref ta), .val (.ref tb)] []) _
  exact Rch.finW (Q := Q_new1e Z ta tb kc h0 n0) X12 hZ12 hEL hS12 (Nat.le_refl _) rfl R12 (v := none) (fun _ => rfl) (BodyLoose.notSynchronized Bd) (fun fs hr => X12.returnOut hx Bd.returns (hb hby dn1_9) hr) ⟨rfl, N12, K12, Q12⟩ (by decide) (by decide)
theorem ds_0 : decode method_3_code 0 = .ok (.iload_n 0, 1) := by decide +kernel
theorem ds_1 : decode method_3_code 1 = .ok (.ifCond .ne 14, 3) := by decide +kernel
theorem ds_4 : decode method_3_code 4 = .ok (.new 40, 3) := by decide +kernel
theorem ds_7 : decode method_3_code 7 = .ok (.dup, 1) := by decide +kernel
theorem ds_8 : decode method_3_code 8 = .ok (.iconst 0, 1) := by decide +kernel
theorem ds_9 : decode method_3_code 9 = .ok (.newarray .char, 2) := by decide +kernel
theorem ds_11 : decode method_3_code 11 = .ok (.invokespecial 42, 3) := by decide +kernel
theorem ds_14 : decode method_3_code 14 = .ok (.areturn, 1) := by decide +kernel
theorem ds_15 : decode method_3_code 15 = .ok (.iload_n 0, 1) := by decide +kernel
theorem ds_16 : decode method_3_code 16 = .ok (.iconst 1, 1) := by decide +kernel
theorem ds_17 : decode method_3_code 17 = .ok (.if_icmp .ne 18, 3) := by decide +kernel
theorem ds_20 : decode method_3_code 20 = .ok (.new 40, 3) := by decide +kernel
theorem ds_23 : decode method_3_code 23 = .ok (.dup, 1) := by decide +kernel
theorem ds_24 : decode method_3_code 24 = .ok (.iconst 1, 1) := by decide +kernel
theorem ds_25 : decode method_3_code 25 = .ok (.newarray .char, 2) := by decide +kernel
theorem ds_27 : decode method_3_code 27 = .ok (.dup, 1) := by decide +kernel
theorem ds_28 : decode method_3_code 28 = .ok (.iconst 0, 1) := by decide +kernel
theorem ds_29 : decode method_3_code 29 = .ok (.iload_n 1, 1) := by decide +kernel
theorem ds_30 : decode method_3_code 30 = .ok (.castore, 1) := by decide +kernel
theorem ds_31 : decode method_3_code 31 = .ok (.invokespecial 42, 3) := by decide +kernel
theorem ds_34 : decode method_3_code 34 = .ok (.areturn, 1) := by decide +kernel
theorem ds_35 : decode method_3_code 35 = .ok (.new 40, 3) := by decide +kernel
theorem ds_38 : decode method_3_code 38 = .ok (.dup, 1) := by decide +kernel
theorem ds_39 : decode method_3_code 39 = .ok (.iconst 2, 1) := by decide +kernel
theorem ds_40 : decode method_3_code 40 = .ok (.newarray .char, 2) := by decide +kernel
theorem ds_42 : decode method_3_code 42 = .ok (.dup, 1) := by decide +kernel
theorem ds_43 : decode method_3_code 43 = .ok (.iconst 0, 1) := by decide +kernel
theorem ds_44 : decode method_3_code 44 = .ok (.iload_n 1, 1) := by decide +kernel
theorem ds_45 : decode method_3_code 45 = .ok (.castore, 1) := by decide +kernel
theorem ds_46 : decode method_3_code 46 = .ok (.dup, 1) := by decide +kernel
theorem ds_47 : decode method_3_code 47 = .ok (.iconst 1, 1) := by decide +kernel
theorem ds_48 : decode method_3_code 48 = .ok (.iload_n 2, 1) := by decide +kernel
theorem ds_49 : decode method_3_code 49 = .ok (.castore, 1) := by decide +kernel
theorem ds_50 : decode method_3_code 50 = .ok (.invokespecial 42, 3) := by decide +kernel
theorem ds_53 : decode method_3_code 53 = .ok (.areturn, 1) := by decide +kernel
theorem pn_str : plainName "com/example/rhea/rhea/jq/TokenIsPinLaw" = true := by first | (simp [plainName, overriddenIn]; done) | decide +kernel
theorem ef_str (m : MethodId) (x0 : Int32) (x1 : Int32) (x2 : Int32) : entryFrame m #[(.int x0), (.int x1), (.int x2)] 3 = mkF m 0 #[.val (.int x0), .val (.int x1), .val (.int x2)] [] := by first | (simp [entryFrame, mkF, argsToLocals, Value.category]; done) | rfl
def Q_str (Z : State) (pn c1 c2 : Int32) (h0 : Heap) (n0 : Nat) (v : Option Value) (h : Heap) (L : List Loc) : Prop := ∃ a, v = some (.ref a) ∧ Fr n0 L ∧ Ext h0 h ∧ StrA Z h a (strL pn c1 c2)
set_option maxRecDepth 65536 in
set_option maxHeartbeats 40000000 in
theorem rm_str (l : Launch) (Z : State) (a0 : Array Value) (hw : ∀ d ∈ tables_1, d.before a0 Z = true) (ws : List Jvm.Cond) (pn c1 c2 : Int32) (h0 : Heap) (n0 : Nat) (Z0 : n0 ≤ h0.size) (k1 : C8 c1) (k2 : C8 c2) (CS : Cmp Z h0) :
    MetFree l (⟨"com/example/rhea/rhea/jq/TokenIsPinLaw", "str", "(ICC)Ljava/lang/String;"⟩ : MethodName) (head1 (Jvm.Cond.code (⟨"com/example/rhea/rhea/jq/TokenIsPinLaw", "str", "(ICC)Ljava/lang/String;"⟩ : MethodName) method_3_code 3 (some (.object "java/lang/String")) :: ws) ({ frames := 4, cells := 6, slots := 12, locals := 66 } : Room)) (fun a U => a = #[(.int pn), (.int c1), (.int c2)] ∧ Z.Warmed39 U.vm ∧ U.heap = h0 ∧ CHv Z EL U.vm h0) (fun _ _ _ _ _ => True) (fun _ U o U' => ∃ v L, o = .returned v ∧ Q_str Z pn c1 c2 h0 n0 v U'.heap L ∧ CHr Z EL U.vm U.heap U'.vm U'.heap ∧ ReturnedEndW U o U' L ({ frames := 4, cells := 6, slots := 12, locals := 66 } : Room).cells ({ frames := 4, cells := 6, slots := 12, locals := 66 } : Room).slots) := by
  refine MetFree.of_bodySF (plainFor_of_name pn_str) hisR ?_
  intro p e s m args below meth c s₁ Bd hml0 hP hK
  obtain ⟨rfl, hZ, hh, H0⟩ := hP
  have hx := Bd.exec
  have hby := Bd.bytes
  have hml : c.maxLocals = 3 := hml0
  have hown : s.vm.findClass "com/example/rhea/rhea/jq/TokenIsPinLaw" = some m.cls := findClass_of_methodNamed Bd.named
  have hnm := (name_of_methodNamed Bd.named Bd.method).1
  have X0 : Stand p l e ({ frames := 4, cells := 6, slots := 12, locals := 66 } : Room) (s.setVm s.vm) m #[(.int pn), (.int c1), (.int c2)] below meth c s₁ [] 0 0 := Stand.of_body Bd
  have e0 : s₁.heap = h0 := by rw [← hh, Bd.state]; rfl
  have N0 := Fr.nil n0
  have hS0 : s.Since s.vm 0 := (State.WarmedH.refl s).since _
  have R0 : CHr Z EL s.vm s.heap s.vm h0 := by rw [hh]; exact CHr.refl H0
  have hZ : Z.Warmed39 (s.setVm s.vm).vm := hZ
  have hown : (s.setVm s.vm).vm.findClass "com/example/rhea/rhea/jq/TokenIsPinLaw" = some m.cls := hown
  have hEL := ew hw
  have wS : ∀ d ∈ Bundle.stringAtoms, d.before a0 Z = true := fun d hd => hw d (ws_lit d hd)
  show Rch p e below s₁ (entryFrame m #[(.int pn), (.int c1), (.int c2)] 3) (fun U o => ∃ v L, o = .returned v ∧ Q_str Z pn c1 c2 h0 n0 v U.heap L ∧ CHr Z EL s.vm s.heap U.vm U.heap ∧ ReturnedEndW s o U L ({ frames := 4, cells := 6, slots := 12, locals := 66 } : Room).cells ({ frames := 4, cells := 6, slots := 12, locals := 66 } : Room).slots)
  refine Rch.cast (ef_str m pn c1 c2) ?_
  show Rch p e below s₁ (mkF m 0 #[.val (.int pn), .val (.int c1), .val (.int c2)] []) _
  refine Rch.st (fun _ k => XS.iloadN X0.here hx rfl (hb hby ds_0) rfl k) ?_
  show Rch p e below s₁ (mkF m 1 #[.val (.int pn), .val (.int c1), .val (.int c2)] [(.int pn)]) _
  by_cases hn0 : pn = (0 : Int32)
  · skip
    refine Rch.st (fun _ k => XS.ifNo X0.here hx rfl (hb hby ds_1) rfl ((if0 _ _).trans (teq hn0).2) k) ?_
    show Rch p e below s₁ (mkF m 4 #[.val (.int pn), .val (.int c1), .val (.int c2)] []) _
    obtain ⟨T13, h13, X13, e13, E13, A13, D13, -, st13⟩ := newO X0 hx hZ hown (wq hw 5 rfl) (wq hw 6 rfl) (wq hw 7 rfl) e0 (g := (mkF m 4 #[.val (.int pn), .val (.int c1), .val (.int c2)] [])) rfl (hb hby ds_4) (by decide) (by decide)
    obtain ⟨a13, g13⟩ : ∃ z, z = h0.size := ⟨_, rfl⟩
    rw [← g13] at A13 D13 st13
    have Ex14 : Ext h0 h13 := E13
    have le15 : h0.size ≤ a13 := Nat.le_of_eq g13.symm
    refine Rch.st st13 ?_
    show Rch p e below T13 (mkF m 7 #[.val (.int pn), .val (.int c1), .val (.int c2)] [(.ref a13)]) _
    refine Rch.st (fun _ k => XS.dup X13.here hx rfl (hb hby ds_7) rfl rfl k) ?_
    show Rch p e below T13 (mkF m 8 #[.val (.int pn), .val (.int c1), .val (.int c2)] [(.ref a13), (.ref a13)]) _
    refine Rch.st (fun _ k => XS.iconst X13.here hx rfl (hb hby ds_8)  k) ?_
    show Rch p e below T13 (mkF m 9 #[.val (.int pn), .val (.int c1), .val (.int c2)] [(.int (0 : Int32)), (.ref a13), (.ref a13)]) _
    obtain ⟨T16, h16, k16, X16, e16, E16, A16, st16⟩ := newP X13 hx hZ (wq hw 8 rfl) e13 (g := (mkF m 9 #[.val (.int pn), .val (.int c1), .val (.int c2)] [(.int (0 : Int32)), (.ref a13), (.ref a13)])) rfl (hb hby ds_9) rfl (by decide : ¬ ((0 : Int32) < (0 : Int32))) (cap := 0) (by decide : ((0 : Int32)).toNatClampNeg ≤ 0) (by decide) (by decide) (by decide)
    obtain ⟨a16, g16⟩ : ∃ z, z = h13.size := ⟨_, rfl⟩
    rw [← g16] at A16 st16
    have Ex17 : Ext h0 h16 := Ex14.tr E16
    have Ex18 : Ext h13 h16 := E16
    have le19 : h0.size ≤ a16 := Nat.le_trans Ex14.1 (Nat.le_of_eq g16.symm)
    have le20 : h13.size ≤ a16 := Nat.le_of_eq g16.symm
    refine Rch.st st16 ?_
    show Rch p e below T16 (mkF m 11 #[.val (.int pn), .val (.int c1), .val (.int c2)] [(.ref a16), (.ref a13), (.ref a13)]) _
    have V16 : Arv Z h16 a16 k16 .char (0 : Int32) [] (.int (0 : Int32)) := (Arv.new A16 (by decide : ¬ ((0 : Int32) < (0 : Int32)))).pad (pad_rep [] (.int (0 : Int32)) 0)
    have R21 := R0.trans (CHr.ext Ex17 R0.1)
    have hk22 := Nat.le_trans (Nat.zero_le _) Ex17.1
    obtain ⟨_, _, ⟨T23, L23, k23, n23⟩, -, X23_, hS23_, hg23_, ⟨Lc23, hQ23, l23, y23, z23, CR23⟩, st23⟩ := X16.specialBackS hx (y := (⟨"java/lang/String", "<init>", "([C)V"⟩ : MethodName)) rfl hown (mvT hZ (wq hw 9 rfl)) (mvT hZ (wq hw 10 rfl)) (mvT hZ (wq hw 11 rfl)) (by decide) (backOfSH (W := 1) (rm_new1e l Z a0 hw [] a13 a16 k16 h16 n0 (Nat.le_trans Z0 Ex17.1) (Nat.le_trans Z0 le15) (A13.ext Ex18) ((D13 (Or.inr (wq hw 21 rfl)) (ty := (.array .byte)) (by decide)).ext Ex18) ((D13 (Or.inr (wq hw 22 rfl)) (ty := .byte) (by decide)).ext Ex18) V16) hZ (wq hw 11 rfl) (wq hw 7 rfl) (by decide) (by decide) hEL R21.1) (g := (mkF m 11 #[.val (.int pn), .val (.int c1), .val (.int c2)] [(.ref a16), (.ref a13), (.ref a13)])) rfl (by rw [hml]; rfl) (Steps.refl _) (a := a13) (argsL := [(.ref a16)]) (rest := [(.ref a13)]) (lenOf pd_1 rfl) rfl (by show 2 * 0 + _ ≤ _; exact Nat.le_of_eq rfl) (hb hby ds_11) (fun _ _ => ⟨rfl, e16, (by decide : 2 + 4 ≤ _), (by decide : 4 + 8 ≤ _)⟩)
    dsimp only [Pt.U, Pt.locs, Pt.cells, Pt.slots] at X23_ hS23_ hg23_ l23 y23 z23 st23 hQ23 CR23
    subst l23 y23 z23
    obtain ⟨X23, hS23, hZ23, hown23⟩ := rebS hS0 (by rw [e16]; exact hk22) X23_ hS23_ hg23_ hZ hown
    obtain ⟨rfl, Nq23, K23, Q23⟩ := hQ23
    have N23 := Fr.app N0 Nq23
    have R23 := R21.trans CR23
    have Ex24 : Ext h0 T23.heap := extKeep1 Ex17 K23 le15
    refine Rch.go st23 ?_
    show Rch p e below T23 (mkF m 14 #[.val (.int pn), .val (.int c1), .val (.int c2)] [(.ref a13)]) _
    have e : strL pn c1 c2 = [] := by simp [strL, hn0]
    exact Rch.finW (Q := Q_str Z pn c1 c2 h0 n0) X23 hZ23 hEL hS23 (Nat.le_refl _) rfl R23 (v := some (.ref a13)) (fun h => by rw [Bd.returns] at h; cases h) (BodyLoose.notSynchronized Bd) (fun fs hr => retR X23 hx Bd.returns rfl rfl (hb hby ds_14) hr) ⟨a13, rfl, N23, Ex24, by rw [e]; exact Q23⟩ (by decide) (by decide)
  · skip
    refine Rch.st (fun _ k => XS.ifYes X0.here hx rfl (pc0 := 1) (pc' := 15) rfl (hb hby ds_1) rfl ((if0 _ _).trans (feq hn0).2) (by decide) (by decide) k) ?_
    show Rch p e below s₁ (mkF m 15 #[.val (.int pn), .val (.int c1), .val (.int c2)] []) _
    refine Rch.st (fun _ k => XS.iloadN X0.here hx rfl (hb hby ds_15) rfl k) ?_
    show Rch p e below s₁ (mkF m 16 #[.val (.int pn), .val (.int c1), .val (.int c2)] [(.int pn)]) _
    refine Rch.st (fun _ k => XS.iconst X0.here hx rfl (hb hby ds_16)  k) ?_
    show Rch p e below s₁ (mkF m 17 #[.val (.int pn), .val (.int c1), .val (.int c2)] [(.int (1 : Int32)), (.int pn)]) _
    by_cases hn1 : pn = (1 : Int32)
    · skip
      refine Rch.st (fun _ k => XS.icmpNo X0.here hx rfl (hb hby ds_17) rfl (teq hn1).2 k) ?_
      show Rch p e below s₁ (mkF m 20 #[.val (.int pn), .val (.int c1), .val (.int c2)] []) _
      obtain ⟨T25, h25, X25, e25, E25, A25, D25, -, st25⟩ := newO X0 hx hZ hown (wq hw 5 rfl) (wq hw 6 rfl) (wq hw 7 rfl) e0 (g := (mkF m 20 #[.val (.int pn), .val (.int c1), .val (.int c2)] [])) rfl (hb hby ds_20) (by decide) (by decide)
      obtain ⟨a25, g25⟩ : ∃ z, z = h0.size := ⟨_, rfl⟩
      rw [← g25] at A25 D25 st25
      have Ex26 : Ext h0 h25 := E25
      have le27 : h0.size ≤ a25 := Nat.le_of_eq g25.symm
      refine Rch.st st25 ?_
      show Rch p e below T25 (mkF m 23 #[.val (.int pn), .val (.int c1), .val (.int c2)] [(.ref a25)]) _
      refine Rch.st (fun _ k => XS.dup X25.here hx rfl (hb hby ds_23) rfl rfl k) ?_
      show Rch p e below T25 (mkF m 24 #[.val (.int pn), .val (.int c1), .val (.int c2)] [(.ref a25), (.ref a25)]) _
      refine Rch.st (fun _ k => XS.iconst X25.here hx rfl (hb hby ds_24)  k) ?_
      show Rch p e below T25 (mkF m 25 #[.val (.int pn), .val (.int c1), .val (.int c2)] [(.int (1 : Int32)), (.ref a25), (.ref a25)]) _
      obtain ⟨T28, h28, k28, X28, e28, E28, A28, st28⟩ := newP X25 hx hZ (wq hw 8 rfl) e25 (g := (mkF m 25 #[.val (.int pn), .val (.int c1), .val (.int c2)] [(.int (1 : Int32)), (.ref a25), (.ref a25)])) rfl (hb hby ds_25) rfl (by decide : ¬ ((1 : Int32) < (0 : Int32))) (cap := 1) (by decide : ((1 : Int32)).toNatClampNeg ≤ 1) (by decide) (by decide) (by decide)
      obtain ⟨a28, g28⟩ : ∃ z, z = h25.size := ⟨_, rfl⟩
      rw [← g28] at A28 st28
      have Ex29 : Ext h0 h28 := Ex26.tr E28
      have Ex30 : Ext h25 h28 := E28
      have le31 : h0.size ≤ a28 := Nat.le_trans Ex26.1 (Nat.le_of_eq g28.symm)
      have le32 : h25.size ≤ a28 := Nat.le_of_eq g28.symm
      refine Rch.st st28 ?_
      show Rch p e below T28 (mkF m 27 #[.val (.int pn), .val (.int c1), .val (.int c2)] [(.ref a28), (.ref a25), (.ref a25)]) _
      have V28 : Arv Z h28 a28 k28 .char (1 : Int32) [(.int (0 : Int32))] (.int (0 : Int32)) := (Arv.new A28 (by decide : ¬ ((1 : Int32) < (0 : Int32)))).pad (pad_rep [] (.int (0 : Int32)) 1)
      refine Rch.st (fun _ k => XS.dup X28.here hx rfl (hb hby ds_27) rfl rfl k) ?_
      show Rch p e below T28 (mkF m 28 #[.val (.int pn), .val (.int c1), .val (.int c2)] [(.ref a28), (.ref a28), (.ref a25), (.ref a25)]) _
      refine Rch.st (fun _ k => XS.iconst X28.here hx rfl (hb hby ds_28)  k) ?_
      show Rch p e below T28 (mkF m 29 #[.val (.int pn), .val (.int c1), .val (.int c2)] [(.int (0 : Int32)), (.ref a28), (.ref a28), (.ref a25), (.ref a25)]) _
      refine Rch.st (fun _ k => XS.iloadN X28.here hx rfl (hb hby ds_29) rfl k) ?_
      show Rch p e below T28 (mkF m 30 #[.val (.int pn), .val (.int c1), .val (.int c2)] [(.int c1), (.int (0 : Int32)), (.ref a28), (.ref a28), (.ref a25), (.ref a25)]) _
      obtain ⟨T33, h33, L33, sl33, X33, e33, W33, V33, N33, st33⟩ := stCv X28 hx hZ e28 V28 N0 (Nat.le_trans Z0 le31) (j := (0 : Int32)) ⟨by decide, by decide⟩ 0 rfl (Nat.le_of_ble_eq_true rfl) (g := (mkF m 30 #[.val (.int pn), .val (.int c1), .val (.int c2)] [(.int c1), (.int (0 : Int32)), (.ref a28), (.ref a28), (.ref a25), (.ref a25)])) rfl rfl (hb hby ds_30)
      have V33_ := V33
      rw [k1.2] at V33_
      have V33' : Arv Z h33 a28 k28 .char (1 : Int32) [(.int c1)] (.int (0 : Int32)) := V33_
      have Ex34 : Ext h0 h33 := extWr Ex29 W33 le31
      have Ex35 : Ext h25 h33 := extWr Ex30 W33 le32
      refine Rch.st st33 ?_
      show Rch p e below T33 (mkF m 31 #[.val (.int pn), .val (.int c1), .val (.int c2)] [(.ref a28), (.ref a25), (.ref a25)]) _
      obtain ⟨_, _, ⟨T36, L36, k36, n36⟩, -, X36, ⟨Lc36, hQ36, l36, y36, z36⟩, st36⟩ := X33.specialBack hx (y := (⟨"java/lang/String", "<init>", "([C)V"⟩ : MethodName)) rfl hown (mvT hZ (wq hw 9 rfl)) (mvT hZ (wq hw 10 rfl)) (mvT hZ (wq hw 11 rfl)) (by decide) (backS (W := 1) hZ hw (cs := [c1]) (n := 1) (Nat.le_trans Z0 le27) (Nat.le_trans Z0 Ex34.1) (A25.ext Ex35) ((D25 (Or.inr (wq hw 21 rfl)) (ty := (.array .byte)) (by decide)).ext Ex35) ((D25 (Or.inr (wq hw 22 rfl)) (ty := .byte) (by decide)).ext Ex35) V33' (CS.ext Ex34) rfl rfl (by decide) (by decide) (c8_cons k1.1 c8_nil) (by decide) (by decide)) (g := (mkF m 31 #[.val (.int pn), .val (.int c1), .val (.int c2)] [(.ref a28), (.ref a25), (.ref a25)])) rfl (by rw [hml]; rfl) (Steps.refl _) (a := a25) (argsL := [(.ref a28)]) (rest := [(.ref a25)]) (lenOf pd_1 rfl) rfl (by show 2 * 0 + _ ≤ _; exact Nat.le_of_eq rfl) (hb hby ds_31) (fun _ _ => ⟨rfl, e33, (by decide : 2 + 1 ≤ _), (by decide : 5 + 1 ≤ _)⟩)
      dsimp only [Pt.U, Pt.locs, Pt.cells, Pt.slots] at X36 l36 y36 z36 st36 hQ36
      subst l36 y36 z36
      obtain ⟨rfl, Nq36, K36, Q36⟩ := hQ36
      have N36 := Fr.app N33 Nq36
      have Ex37 : Ext h0 T36.heap := extKeep1 Ex34 K36 le27
      refine Rch.go st36 ?_
      show Rch p e below T36 (mkF m 34 #[.val (.int pn), .val (.int c1), .val (.int c2)] [(.ref a25)]) _
      have e : strL pn c1 c2 = [c1] := by simp [strL, hn1]
      have R38 := R0.trans (CHr.ext Ex37 R0.1)
      have hk39 := Nat.le_trans (Nat.zero_le _) Ex37.1
      exact Rch.finW (Q := Q_str Z pn c1 c2 h0 n0) X36 hZ hEL hS0 hk39 rfl R38 (v := some (.ref a25)) (fun h => by rw [Bd.returns] at h; cases h) (BodyLoose.notSynchronized Bd) (fun fs hr => retR X36 hx Bd.returns rfl rfl (hb hby ds_34) hr) ⟨a25, rfl, N36, Ex37, by rw [e]; exact Q36⟩ (by decide) (by decide)
    · skip
      refine Rch.st (fun _ k => XS.icmpYes X0.here hx rfl (pc0 := 17) (pc' := 35) rfl (hb hby ds_17) rfl (feq hn1).2 (by decide) (by decide) k) ?_
      show Rch p e below s₁ (mkF m 35 #[.val (.int pn), .val (.int c1), .val (.int c2)] []) _
      obtain ⟨T40, h40, X40, e40, E40, A40, D40, -, st40⟩ := newO X0 hx hZ hown (wq hw 5 rfl) (wq hw 6 rfl) (wq hw 7 rfl) e0 (g := (mkF m 35 #[.val (.int pn), .val (.int c1), .val (.int c2)] [])) rfl (hb hby ds_35) (by decide) (by decide)
      obtain ⟨a40, g40⟩ : ∃ z, z = h0.size := ⟨_, rfl⟩
      rw [← g40] at A40 D40 st40
      have Ex41 : Ext h0 h40 := E40
      have le42 : h0.size ≤ a40 := Nat.le_of_eq g40.symm
      refine Rch.st st40 ?_
      show Rch p e below T40 (mkF m 38 #[.val (.int pn), .val (.int c1), .val (.int c2)] [(.ref a40)]) _
      refine Rch.st (fun _ k => XS.dup X40.here hx rfl (hb hby ds_38) rfl rfl k) ?_
      show Rch p e below T40 (mkF m 39 #[.val (.int pn), .val (.int c1), .val (.int c2)] [(.ref a40), (.ref a40)]) _
      refine Rch.st (fun _ k => XS.iconst X40.here hx rfl (hb hby ds_39)  k) ?_
      show Rch p e below T40 (mkF m 40 #[.val (.int pn), .val (.int c1), .val (.int c2)] [(.int (2 : Int32)), (.ref a40), (.ref a40)]) _
      obtain ⟨T43, h43, k43, X43, e43, E43, A43, st43⟩ := newP X40 hx hZ (wq hw 8 rfl) e40 (g := (mkF m 40 #[.val (.int pn), .val (.int c1), .val (.int c2)] [(.int (2 : Int32)), (.ref a40), (.ref a40)])) rfl (hb hby ds_40) rfl (by decide : ¬ ((2 : Int32) < (0 : Int32))) (cap := 2) (by decide : ((2 : Int32)).toNatClampNeg ≤ 2) (by decide) (by decide) (by decide)
      obtain ⟨a43, g43⟩ : ∃ z, z = h40.size := ⟨_, rfl⟩
      rw [← g43] at A43 st43
      have Ex44 : Ext h0 h43 := Ex41.tr E43
      have Ex45 : Ext h40 h43 := E43
      have le46 : h0.size ≤ a43 := Nat.le_trans Ex41.1 (Nat.le_of_eq g43.symm)
      have le47 : h40.size ≤ a43 := Nat.le_of_eq g43.symm
      refine Rch.st st43 ?_
      show Rch p e below T43 (mkF m 42 #[.val (.int pn), .val (.int c1), .val (.int c2)] [(.ref a43), (.ref a40), (.ref a40)]) _
      have V43 : Arv Z h43 a43 k43 .char (2 : Int32) [(.int (0 : Int32)), (.int (0 : Int32))] (.int (0 : Int32)) := (Arv.new A43 (by decide : ¬ ((2 : Int32) < (0 : Int32)))).pad (pad_rep [] (.int (0 : Int32)) 2)
      refine Rch.st (fun _ k => XS.dup X43.here hx rfl (hb hby ds_42) rfl rfl k) ?_
      show Rch p e below T43 (mkF m 43 #[.val (.int pn), .val (.int c1), .val (.int c2)] [(.ref a43), (.ref a43), (.ref a40), (.ref a40)]) _
      refine Rch.st (fun _ k => XS.iconst X43.here hx rfl (hb hby ds_43)  k) ?_
      show Rch p e below T43 (mkF m 44 #[.val (.int pn), .val (.int c1), .val (.int c2)] [(.int (0 : Int32)), (.ref a43), (.ref a43), (.ref a40), (.ref a40)]) _
      refine Rch.st (fun _ k => XS.iloadN X43.here hx rfl (hb hby ds_44) rfl k) ?_
      show Rch p e below T43 (mkF m 45 #[.val (.int pn), .val (.int c1), .val (.int c2)] [(.int c1), (.int (0 : Int32)), (.ref a43), (.ref a43), (.ref a40), (.ref a40)]) _
      obtain ⟨T48, h48, L48, sl48, X48, e48, W48, V48, N48, st48⟩ := stCv X43 hx hZ e43 V43 N0 (Nat.le_trans Z0 le46) (j := (0 : Int32)) ⟨by decide, by decide⟩ 0 rfl (Nat.le_of_ble_eq_true rfl) (g := (mkF m 45 #[.val (.int pn), .val (.int c1), .val (.int c2)] [(.int c1), (.int (0 : Int32)), (.ref a43), (.ref a43), (.ref a40), (.ref a40)])) rfl rfl (hb hby ds_45)
      have V48_ := V48
      rw [k1.2] at V48_
      have V48' : Arv Z h48 a43 k43 .char (2 : Int32) [(.int c1), (.int (0 : Int32))] (.int (0 : Int32)) := V48_
      have Ex49 : Ext h0 h48 := extWr Ex44 W48 le46
      have Ex50 : Ext h40 h48 := extWr Ex45 W48 le47
      refine Rch.st st48 ?_
      show Rch p e below T48 (mkF m 46 #[.val (.int pn), .val (.int c1), .val (.int c2)] [(.ref a43), (.ref a40), (.ref a40)]) _
      refine Rch.st (fun _ k => XS.dup X48.here hx rfl (hb hby ds_46) rfl rfl k) ?_
      show Rch p e below T48 (mkF m 47 #[.val (.int pn), .val (.int c1), .val (.int c2)] [(.ref a43), (.ref a43), (.ref a40), (.ref a40)]) _
      refine Rch.st (fun _ k => XS.iconst X48.here hx rfl (hb hby ds_47)  k) ?_
      show Rch p e below T48 (mkF m 48 #[.val (.int pn), .val (.int c1), .val (.int c2)] [(.int (1 : Int32)), (.ref a43), (.ref a43), (.ref a40), (.ref a40)]) _
      refine Rch.st (fun _ k => XS.iloadN X48.here hx rfl (hb hby ds_48) rfl k) ?_
      show Rch p e below T48 (mkF m 49 #[.val (.int pn), .val (.int c1), .val (.int c2)] [(.int c2), (.int (1 : Int32)), (.ref a43), (.ref a43), (.ref a40), (.ref a40)]) _
      obtain ⟨T51, h51, L51, sl51, X51, e51, W51, V51, N51, st51⟩ := stCv X48 hx hZ e48 V48' N48 (Nat.le_trans Z0 le46) (j := (1 : Int32)) ⟨by decide, by decide⟩ 1 rfl (Nat.le_of_ble_eq_true rfl) (g := (mkF m 49 #[.val (.int pn), .val (.int c1), .val (.int c2)] [(.int c2), (.int (1 : Int32)), (.ref a43), (.ref a43), (.ref a40), (.ref a40)])) rfl rfl (hb hby ds_49)
      have V51_ := V51
      rw [k2.2] at V51_
      have V51' : Arv Z h51 a43 k43 .char (2 : Int32) [(.int c1), (.int c2)] (.int (0 : Int32)) := V51_
      have Ex52 : Ext h0 h51 := extWr Ex49 W51 le46
      have Ex53 : Ext h40 h51 := extWr Ex50 W51 le47
      refine Rch.st st51 ?_
      show Rch p e below T51 (mkF m 50 #[.val (.int pn), .val (.int c1), .val (.int c2)] [(.ref a43), (.ref a40), (.ref a40)]) _
      obtain ⟨_, _, ⟨T54, L54, k54, n54⟩, -, X54, ⟨Lc54, hQ54, l54, y54, z54⟩, st54⟩ := X51.specialBack hx (y := (⟨"java/lang/String", "<init>", "([C)V"⟩ : MethodName)) rfl hown (mvT hZ (wq hw 9 rfl)) (mvT hZ (wq hw 10 rfl)) (mvT hZ (wq hw 11 rfl)) (by decide) (backS (W := 1) hZ hw (cs := [c1, c2]) (n := 2) (Nat.le_trans Z0 le42) (Nat.le_trans Z0 Ex52.1) (A40.ext Ex53) ((D40 (Or.inr (wq hw 21 rfl)) (ty := (.array .byte)) (by decide)).ext Ex53) ((D40 (Or.inr (wq hw 22 rfl)) (ty := .byte) (by decide)).ext Ex53) V51' (CS.ext Ex52) rfl rfl (by decide) (by decide) (c8_cons k1.1 (c8_cons k2.1 c8_nil)) (by decide) (by decide)) (g := (mkF m 50 #[.val (.int pn), .val (.int c1), .val (.int c2)] [(.ref a43), (.ref a40), (.ref a40)])) rfl (by rw [hml]; rfl) (Steps.refl _) (a := a40) (argsL := [(.ref a43)]) (rest := [(.ref a40)]) (lenOf pd_1 rfl) rfl (by show 2 * 0 + _ ≤ _; exact Nat.le_of_eq rfl) (hb hby ds_50) (fun _ _ => ⟨rfl, e51, (by decide : 2 + 1 ≤ _), (by decide : 6 + 2 ≤ _)⟩)
      dsimp only [Pt.U, Pt.locs, Pt.cells, Pt.slots] at X54 l54 y54 z54 st54 hQ54
      subst l54 y54 z54
      obtain ⟨rfl, Nq54, K54, Q54⟩ := hQ54
      have N54 := Fr.app N51 Nq54
      have Ex55 : Ext h0 T54.heap := extKeep1 Ex52 K54 le42
      refine Rch.go st54 ?_
      show Rch p e below T54 (mkF m 53 #[.val (.int pn), .val (.int c1), .val (.int c2)] [(.ref a40)]) _
      have e : strL pn c1 c2 = [c1, c2] := by simp [strL, hn0, hn1]
      have R56 := R0.trans (CHr.ext Ex55 R0.1)
      have hk57 := Nat.le_trans (Nat.zero_le _) Ex55.1
      exact Rch.finW (Q := Q_str Z pn c1 c2 h0 n0) X54 hZ hEL hS0 hk57 rfl R56 (v := some (.ref a40)) (fun h => by rw [Bd.returns] at h; cases h) (BodyLoose.notSynchronized Bd) (fun fs hr => retR X54 hx Bd.returns rfl rfl (hb hby ds_53) hr) ⟨a40, rfl, N54, Ex55, by rw [e]; exact Q54⟩ (by decide) (by decide)
theorem dk_0 : decode method_2_code 0 = .ok (.iload_n 0, 1) := by decide +kernel
theorem dk_1 : decode method_2_code 1 = .ok (.ifCond .ne 7, 3) := by decide +kernel
theorem dk_4 : decode method_2_code 4 = .ok (.getstatic 7, 3) := by decide +kernel
theorem dk_7 : decode method_2_code 7 = .ok (.areturn, 1) := by decide +kernel
theorem dk_8 : decode method_2_code 8 = .ok (.iload_n 0, 1) := by decide +kernel
theorem dk_9 : decode method_2_code 9 = .ok (.iconst 1, 1) := by decide +kernel
theorem dk_10 : decode method_2_code 10 = .ok (.if_icmp .ne 7, 3) := by decide +kernel
theorem dk_13 : decode method_2_code 13 = .ok (.getstatic 13, 3) := by decide +kernel
theorem dk_16 : decode method_2_code 16 = .ok (.areturn, 1) := by decide +kernel
theorem dk_17 : decode method_2_code 17 = .ok (.iload_n 0, 1) := by decide +kernel
theorem dk_18 : decode method_2_code 18 = .ok (.iconst 2, 1) := by decide +kernel
theorem dk_19 : decode method_2_code 19 = .ok (.if_icmp .ne 7, 3) := by decide +kernel
theorem dk_22 : decode method_2_code 22 = .ok (.getstatic 16, 3) := by decide +kernel
theorem dk_25 : decode method_2_code 25 = .ok (.areturn, 1) := by decide +kernel
theorem dk_26 : decode method_2_code 26 = .ok (.iload_n 0, 1) := by decide +kernel
theorem dk_27 : decode method_2_code 27 = .ok (.iconst 3, 1) := by decide +kernel
theorem dk_28 : decode method_2_code 28 = .ok (.if_icmp .ne 7, 3) := by decide +kernel
theorem dk_31 : decode method_2_code 31 = .ok (.getstatic 19, 3) := by decide +kernel
theorem dk_34 : decode method_2_code 34 = .ok (.areturn, 1) := by decide +kernel
theorem dk_35 : decode method_2_code 35 = .ok (.iload_n 0, 1) := by decide +kernel
theorem dk_36 : decode method_2_code 36 = .ok (.iconst 4, 1) := by decide +kernel
theorem dk_37 : decode method_2_code 37 = .ok (.if_icmp .ne 7, 3) := by decide +kernel
theorem dk_40 : decode method_2_code 40 = .ok (.getstatic 22, 3) := by decide +kernel
theorem dk_43 : decode method_2_code 43 = .ok (.areturn, 1) := by decide +kernel
theorem dk_44 : decode method_2_code 44 = .ok (.iload_n 0, 1) := by decide +kernel
theorem dk_45 : decode method_2_code 45 = .ok (.iconst 5, 1) := by decide +kernel
theorem dk_46 : decode method_2_code 46 = .ok (.if_icmp .ne 7, 3) := by decide +kernel
theorem dk_49 : decode method_2_code 49 = .ok (.getstatic 25, 3) := by decide +kernel
theorem dk_52 : decode method_2_code 52 = .ok (.areturn, 1) := by decide +kernel
theorem dk_53 : decode method_2_code 53 = .ok (.iload_n 0, 1) := by decide +kernel
theorem dk_54 : decode method_2_code 54 = .ok (.bipush 6, 2) := by decide +kernel
theorem dk_56 : decode method_2_code 56 = .ok (.if_icmp .ne 7, 3) := by decide +kernel
theorem dk_59 : decode method_2_code 59 = .ok (.getstatic 28, 3) := by decide +kernel
theorem dk_62 : decode method_2_code 62 = .ok (.areturn, 1) := by decide +kernel
theorem dk_63 : decode method_2_code 63 = .ok (.iload_n 0, 1) := by decide +kernel
theorem dk_64 : decode method_2_code 64 = .ok (.bipush 7, 2) := by decide +kernel
theorem dk_66 : decode method_2_code 66 = .ok (.if_icmp .ne 7, 3) := by decide +kernel
theorem dk_69 : decode method_2_code 69 = .ok (.getstatic 31, 3) := by decide +kernel
theorem dk_72 : decode method_2_code 72 = .ok (.areturn, 1) := by decide +kernel
theorem dk_73 : decode method_2_code 73 = .ok (.iload_n 0, 1) := by decide +kernel
theorem dk_74 : decode method_2_code 74 = .ok (.bipush 8, 2) := by decide +kernel
theorem dk_76 : decode method_2_code 76 = .ok (.if_icmp .ne 7, 3) := by decide +kernel
theorem dk_79 : decode method_2_code 79 = .ok (.getstatic 34, 3) := by decide +kernel
theorem dk_82 : decode method_2_code 82 = .ok (.areturn, 1) := by decide +kernel
theorem dk_83 : decode method_2_code 83 = .ok (.getstatic 37, 3) := by decide +kernel
theorem dk_86 : decode method_2_code 86 = .ok (.areturn, 1) := by decide +kernel
theorem pn_kind : plainName "com/example/rhea/rhea/jq/TokenIsPinLaw" = true := by first | (simp [plainName, overriddenIn]; done) | decide +kernel
theorem ef_kind (m : MethodId) (x0 : Int32) : entryFrame m #[(.int x0)] 1 = mkF m 0 #[.val (.int x0)] [] := by first | (simp [entryFrame, mkF, argsToLocals, Value.category]; done) | rfl
def Q_kind (Z : State) (kw : Nat → Addr) (pi : Int32) (h0 : Heap) (n0 : Nat) (v : Option Value) (h : Heap) (L : List Loc) : Prop := v = some (.ref (kw (kidx pi))) ∧ Fr n0 L ∧ h = h0
set_option maxRecDepth 65536 in
set_option maxHeartbeats 40000000 in
theorem rm_kind (l : Launch) (Z : State) (a0 : Array Value) (hw : ∀ d ∈ tables_1, d.before a0 Z = true) (ws : List Jvm.Cond) (kw : Nat → Addr) (pi : Int32) (h0 : Heap) (n0 : Nat) (Z0 : n0 ≤ h0.size) (B : Bg Z h0 kw) :
    MetFree l (⟨"com/example/rhea/rhea/jq/TokenIsPinLaw", "kind", "(I)Lcom/example/rhea/rhea/jq/Token$Kind;"⟩ : MethodName) (head1 (Jvm.Cond.code (⟨"com/example/rhea/rhea/jq/TokenIsPinLaw", "kind", "(I)Lcom/example/rhea/rhea/jq/Token$Kind;"⟩ : MethodName) method_2_code 1 (some (.object "com/example/rhea/rhea/jq/Token$Kind")) :: ws) ({ frames := 0, cells := 0, slots := 0, locals := 0 } : Room)) (fun a U => a = #[(.int pi)] ∧ Z.Warmed39 U.vm ∧ U.heap = h0) (fun _ _ _ _ _ => True) (fun _ U o U' => ∃ v L, o = .returned v ∧ Q_kind Z kw pi h0 n0 v U'.heap L ∧ FrameEnd U o U' L ({ frames := 0, cells := 0, slots := 0, locals := 0 } : Room).cells ({ frames := 0, cells := 0, slots := 0, locals := 0 } : Room).slots) := by
  refine MetFree.of_bodySF (plainFor_of_name pn_kind) hisR ?_
  intro p e s m args below meth c s₁ Bd hml0 hP hK
  obtain ⟨rfl, hZ, hh⟩ := hP
  have hx := Bd.exec
  have hby := Bd.bytes
  have hml : c.maxLocals = 1 := hml0
  have hown : s.vm.findClass "com/example/rhea/rhea/jq/TokenIsPinLaw" = some m.cls := findClass_of_methodNamed Bd.named
  have hnm := (name_of_methodNamed Bd.named Bd.method).1
  have X0 : Stand p l e ({ frames := 0, cells := 0, slots := 0, locals := 0 } : Room) s m #[(.int pi)] below meth c s₁ [] 0 0 := Stand.of_body Bd
  have e0 : s₁.heap = h0 := by rw [← hh, Bd.state]; rfl
  have N0 := Fr.nil n0
  show Rch p e below s₁ (entryFrame m #[(.int pi)] 1) (fun U o => ∃ v L, o = .returned v ∧ Q_kind Z kw pi h0 n0 v U.heap L ∧ FrameEnd s o U L ({ frames := 0, cells := 0, slots := 0, locals := 0 } : Room).cells ({ frames := 0, cells := 0, slots := 0, locals := 0 } : Room).slots)
  refine Rch.cast (ef_kind m pi) ?_
  show Rch p e below s₁ (mkF m 0 #[.val (.int pi)] []) _
  refine Rch.st (fun _ k => XS.iloadN X0.here hx rfl (hb hby dk_0) rfl k) ?_
  show Rch p e below s₁ (mkF m 1 #[.val (.int pi)] [(.int pi)]) _
  by_cases hk0 : pi = (0 : Int32)
  · skip
    refine Rch.st (fun _ k => XS.ifNo X0.here hx rfl (hb hby dk_1) rfl ((if0 _ _).trans (teq hk0).2) k) ?_
    show Rch p e below s₁ (mkF m 4 #[.val (.int pi)] []) _
    obtain ⟨T58, X58, e58, st58⟩ := getS2 X0 hx hZ hown (host := "") (Or.inl (wq hw 44 rfl)) Via.refl e0 B.1 (g := (mkF m 4 #[.val (.int pi)] [])) rfl (hb hby dk_4)
    refine Rch.st st58 ?_
    show Rch p e below T58 (mkF m 7 #[.val (.int pi)] [(.ref (kw 0))]) _
    have e : kidx pi = 0 := by subst hk0; decide
    exact Rch.fin (Q := Q_kind Z kw pi h0 n0) X58 (v := some (.ref (kw 0))) (fun h => by rw [Bd.returns] at h; cases h) (BodyLoose.notSynchronized Bd) (fun fs hr => retR X58 hx Bd.returns rfl rfl (hb hby dk_7) hr) (by rw [e58]; exact ⟨by rw [e], N0, rfl⟩) (by decide) (by decide)
  · skip
    refine Rch.st (fun _ k => XS.ifYes X0.here hx rfl (pc0 := 1) (pc' := 8) rfl (hb hby dk_1) rfl ((if0 _ _).trans (feq hk0).2) (by decide) (by decide) k) ?_
    show Rch p e below s₁ (mkF m 8 #[.val (.int pi)] []) _
    refine Rch.st (fun _ k => XS.iloadN X0.here hx rfl (hb hby dk_8) rfl k) ?_
    show Rch p e below s₁ (mkF m 9 #[.val (.int pi)] [(.int pi)]) _
    refine Rch.st (fun _ k => XS.iconst X0.here hx rfl (hb hby dk_9)  k) ?_
    show Rch p e below s₁ (mkF m 10 #[.val (.int pi)] [(.int (1 : Int32)), (.int pi)]) _
    by_cases hk1 : pi = (1 : Int32)
    · skip
      refine Rch.st (fun _ k => XS.icmpNo X0.here hx rfl (hb hby dk_10) rfl (teq hk1).2 k) ?_
      show Rch p e below s₁ (mkF m 13 #[.val (.int pi)] []) _
      obtain ⟨T59, X59, e59, st59⟩ := getS2 X0 hx hZ hown (host := "") (Or.inl (wq hw 80 rfl)) Via.refl e0 B.2.1 (g := (mkF m 13 #[.val (.int pi)] [])) rfl (hb hby dk_13)
      refine Rch.st st59 ?_
      show Rch p e below T59 (mkF m 16 #[.val (.int pi)] [(.ref (kw 1))]) _
      have e : kidx pi = 1 := by subst hk1; decide
      exact Rch.fin (Q := Q_kind Z kw pi h0 n0) X59 (v := some (.ref (kw 1))) (fun h => by rw [Bd.returns] at h; cases h) (BodyLoose.notSynchronized Bd) (fun fs hr => retR X59 hx Bd.returns rfl rfl (hb hby dk_16) hr) (by rw [e59]; exact ⟨by rw [e], N0, rfl⟩) (by decide) (by decide)
    · skip
      refine Rch.st (fun _ k => XS.icmpYes X0.here hx rfl (pc0 := 10) (pc' := 17) rfl (hb hby dk_10) rfl (feq hk1).2 (by decide) (by decide) k) ?_
      show Rch p e below s₁ (mkF m 17 #[.val (.int pi)] []) _
      refine Rch.st (fun _ k => XS.iloadN X0.here hx rfl (hb hby dk_17) rfl k) ?_
      show Rch p e below s₁ (mkF m 18 #[.val (.int pi)] [(.int pi)]) _
      refine Rch.st (fun _ k => XS.iconst X0.here hx rfl (hb hby dk_18)  k) ?_
      show Rch p e below s₁ (mkF m 19 #[.val (.int pi)] [(.int (2 : Int32)), (.int pi)]) _
      by_cases hk2 : pi = (2 : Int32)
      · skip
        refine Rch.st (fun _ k => XS.icmpNo X0.here hx rfl (hb hby dk_19) rfl (teq hk2).2 k) ?_
        show Rch p e below s₁ (mkF m 22 #[.val (.int pi)] []) _
        obtain ⟨T60, X60, e60, st60⟩ := getS2 X0 hx hZ hown (host := "") (Or.inl (wq hw 74 rfl)) Via.refl e0 B.2.2.1 (g := (mkF m 22 #[.val (.int pi)] [])) rfl (hb hby dk_22)
        refine Rch.st st60 ?_
        show Rch p e below T60 (mkF m 25 #[.val (.int pi)] [(.ref (kw 2))]) _
        have e : kidx pi = 2 := by subst hk2; decide
        exact Rch.fin (Q := Q_kind Z kw pi h0 n0) X60 (v := some (.ref (kw 2))) (fun h => by rw [Bd.returns] at h; cases h) (BodyLoose.notSynchronized Bd) (fun fs hr => retR X60 hx Bd.returns rfl rfl (hb hby dk_25) hr) (by rw [e60]; exact ⟨by rw [e], N0, rfl⟩) (by decide) (by decide)
      · skip
        refine Rch.st (fun _ k => XS.icmpYes X0.here hx rfl (pc0 := 19) (pc' := 26) rfl (hb hby dk_19) rfl (feq hk2).2 (by decide) (by decide) k) ?_
        show Rch p e below s₁ (mkF m 26 #[.val (.int pi)] []) _
        refine Rch.st (fun _ k => XS.iloadN X0.here hx rfl (hb hby dk_26) rfl k) ?_
        show Rch p e below s₁ (mkF m 27 #[.val (.int pi)] [(.int pi)]) _
        refine Rch.st (fun _ k => XS.iconst X0.here hx rfl (hb hby dk_27)  k) ?_
        show Rch p e below s₁ (mkF m 28 #[.val (.int pi)] [(.int (3 : Int32)), (.int pi)]) _
        by_cases hk3 : pi = (3 : Int32)
        · skip
          refine Rch.st (fun _ k => XS.icmpNo X0.here hx rfl (hb hby dk_28) rfl (teq hk3).2 k) ?_
          show Rch p e below s₁ (mkF m 31 #[.val (.int pi)] []) _
          obtain ⟨T61, X61, e61, st61⟩ := getS2 X0 hx hZ hown (host := "") (Or.inl (wq hw 82 rfl)) Via.refl e0 B.2.2.2.1 (g := (mkF m 31 #[.val (.int pi)] [])) rfl (hb hby dk_31)
          refine Rch.st st61 ?_
          show Rch p e below T61 (mkF m 34 #[.val (.int pi)] [(.ref (kw 3))]) _
          have e : kidx pi = 3 := by subst hk3; decide
          exact Rch.fin (Q := Q_kind Z kw pi h0 n0) X61 (v := some (.ref (kw 3))) (fun h => by rw [Bd.returns] at h; cases h) (BodyLoose.notSynchronized Bd) (fun fs hr => retR X61 hx Bd.returns rfl rfl (hb hby dk_34) hr) (by rw [e61]; exact ⟨by rw [e], N0, rfl⟩) (by decide) (by decide)
        · skip
          refine Rch.st (fun _ k => XS.icmpYes X0.here hx rfl (pc0 := 28) (pc' := 35) rfl (hb hby dk_28) rfl (feq hk3).2 (by decide) (by decide) k) ?_
          show Rch p e below s₁ (mkF m 35 #[.val (.int pi)] []) _
          refine Rch.st (fun _ k => XS.iloadN X0.here hx rfl (hb hby dk_35) rfl k) ?_
          show Rch p e below s₁ (mkF m 36 #[.val (.int pi)] [(.int pi)]) _
          refine Rch.st (fun _ k => XS.iconst X0.here hx rfl (hb hby dk_36)  k) ?_
          show Rch p e below s₁ (mkF m 37 #[.val (.int pi)] [(.int (4 : Int32)), (.int pi)]) _
          by_cases hk4 : pi = (4 : Int32)
          · skip
            refine Rch.st (fun _ k => XS.icmpNo X0.here hx rfl (hb hby dk_37) rfl (teq hk4).2 k) ?_
            show Rch p e below s₁ (mkF m 40 #[.val (.int pi)] []) _
            obtain ⟨T62, X62, e62, st62⟩ := getS2 X0 hx hZ hown (host := "") (Or.inl (wq hw 90 rfl)) Via.refl e0 B.2.2.2.2.1 (g := (mkF m 40 #[.val (.int pi)] [])) rfl (hb hby dk_40)
            refine Rch.st st62 ?_
            show Rch p e below T62 (mkF m 43 #[.val (.int pi)] [(.ref (kw 4))]) _
            have e : kidx pi = 4 := by subst hk4; decide
            exact Rch.fin (Q := Q_kind Z kw pi h0 n0) X62 (v := some (.ref (kw 4))) (fun h => by rw [Bd.returns] at h; cases h) (BodyLoose.notSynchronized Bd) (fun fs hr => retR X62 hx Bd.returns rfl rfl (hb hby dk_43) hr) (by rw [e62]; exact ⟨by rw [e], N0, rfl⟩) (by decide) (by decide)
          · skip
            refine Rch.st (fun _ k => XS.icmpYes X0.here hx rfl (pc0 := 37) (pc' := 44) rfl (hb hby dk_37) rfl (feq hk4).2 (by decide) (by decide) k) ?_
            show Rch p e below s₁ (mkF m 44 #[.val (.int pi)] []) _
            refine Rch.st (fun _ k => XS.iloadN X0.here hx rfl (hb hby dk_44) rfl k) ?_
            show Rch p e below s₁ (mkF m 45 #[.val (.int pi)] [(.int pi)]) _
            refine Rch.st (fun _ k => XS.iconst X0.here hx rfl (hb hby dk_45)  k) ?_
            show Rch p e below s₁ (mkF m 46 #[.val (.int pi)] [(.int (5 : Int32)), (.int pi)]) _
            by_cases hk5 : pi = (5 : Int32)
            · skip
              refine Rch.st (fun _ k => XS.icmpNo X0.here hx rfl (hb hby dk_46) rfl (teq hk5).2 k) ?_
              show Rch p e below s₁ (mkF m 49 #[.val (.int pi)] []) _
              obtain ⟨T63, X63, e63, st63⟩ := getS2 X0 hx hZ hown (host := "") (Or.inl (wq hw 86 rfl)) Via.refl e0 B.2.2.2.2.2.1 (g := (mkF m 49 #[.val (.int pi)] [])) rfl (hb hby dk_49)
              refine Rch.st st63 ?_
              show Rch p e below T63 (mkF m 52 #[.val (.int pi)] [(.ref (kw 5))]) _
              have e : kidx pi = 5 := by subst hk5; decide
              exact Rch.fin (Q := Q_kind Z kw pi h0 n0) X63 (v := some (.ref (kw 5))) (fun h => by rw [Bd.returns] at h; cases h) (BodyLoose.notSynchronized Bd) (fun fs hr => retR X63 hx Bd.returns rfl rfl (hb hby dk_52) hr) (by rw [e63]; exact ⟨by rw [e], N0, rfl⟩) (by decide) (by decide)
            · skip
              refine Rch.st (fun _ k => XS.icmpYes X0.here hx rfl (pc0 := 46) (pc' := 53) rfl (hb hby dk_46) rfl (feq hk5).2 (by decide) (by decide) k) ?_
              show Rch p e below s₁ (mkF m 53 #[.val (.int pi)] []) _
              refine Rch.st (fun _ k => XS.iloadN X0.here hx rfl (hb hby dk_53) rfl k) ?_
              show Rch p e below s₁ (mkF m 54 #[.val (.int pi)] [(.int pi)]) _
              refine Rch.st (fun _ k => XS.bipush X0.here hx rfl (hb hby dk_54)  k) ?_
              show Rch p e below s₁ (mkF m 56 #[.val (.int pi)] [(.int (6 : Int32)), (.int pi)]) _
              by_cases hk6 : pi = (6 : Int32)
              · skip
                refine Rch.st (fun _ k => XS.icmpNo X0.here hx rfl (hb hby dk_56) rfl (teq hk6).2 k) ?_
                show Rch p e below s₁ (mkF m 59 #[.val (.int pi)] []) _
                obtain ⟨T64, X64, e64, st64⟩ := getS2 X0 hx hZ hown (host := "") (Or.inl (wq hw 88 rfl)) Via.refl e0 B.2.2.2.2.2.2.1 (g := (mkF m 59 #[.val (.int pi)] [])) rfl (hb hby dk_59)
                refine Rch.st st64 ?_
                show Rch p e below T64 (mkF m 62 #[.val (.int pi)] [(.ref (kw 6))]) _
                have e : kidx pi = 6 := by subst hk6; decide
                exact Rch.fin (Q := Q_kind Z kw pi h0 n0) X64 (v := some (.ref (kw 6))) (fun h => by rw [Bd.returns] at h; cases h) (BodyLoose.notSynchronized Bd) (fun fs hr => retR X64 hx Bd.returns rfl rfl (hb hby dk_62) hr) (by rw [e64]; exact ⟨by rw [e], N0, rfl⟩) (by decide) (by decide)
              · skip
                refine Rch.st (fun _ k => XS.icmpYes X0.here hx rfl (pc0 := 56) (pc' := 63) rfl (hb hby dk_56) rfl (feq hk6).2 (by decide) (by decide) k) ?_
                show Rch p e below s₁ (mkF m 63 #[.val (.int pi)] []) _
                refine Rch.st (fun _ k => XS.iloadN X0.here hx rfl (hb hby dk_63) rfl k) ?_
                show Rch p e below s₁ (mkF m 64 #[.val (.int pi)] [(.int pi)]) _
                refine Rch.st (fun _ k => XS.bipush X0.here hx rfl (hb hby dk_64)  k) ?_
                show Rch p e below s₁ (mkF m 66 #[.val (.int pi)] [(.int (7 : Int32)), (.int pi)]) _
                by_cases hk7 : pi = (7 : Int32)
                · skip
                  refine Rch.st (fun _ k => XS.icmpNo X0.here hx rfl (hb hby dk_66) rfl (teq hk7).2 k) ?_
                  show Rch p e below s₁ (mkF m 69 #[.val (.int pi)] []) _
                  obtain ⟨T65, X65, e65, st65⟩ := getS2 X0 hx hZ hown (host := "") (Or.inl (wq hw 84 rfl)) Via.refl e0 B.2.2.2.2.2.2.2.1 (g := (mkF m 69 #[.val (.int pi)] [])) rfl (hb hby dk_69)
                  refine Rch.st st65 ?_
                  show Rch p e below T65 (mkF m 72 #[.val (.int pi)] [(.ref (kw 7))]) _
                  have e : kidx pi = 7 := by subst hk7; decide
                  exact Rch.fin (Q := Q_kind Z kw pi h0 n0) X65 (v := some (.ref (kw 7))) (fun h => by rw [Bd.returns] at h; cases h) (BodyLoose.notSynchronized Bd) (fun fs hr => retR X65 hx Bd.returns rfl rfl (hb hby dk_72) hr) (by rw [e65]; exact ⟨by rw [e], N0, rfl⟩) (by decide) (by decide)
                · skip
                  refine Rch.st (fun _ k => XS.icmpYes X0.here hx rfl (pc0 := 66) (pc' := 73) rfl (hb hby dk_66) rfl (feq hk7).2 (by decide) (by decide) k) ?_
                  show Rch p e below s₁ (mkF m 73 #[.val (.int pi)] []) _
                  refine Rch.st (fun _ k => XS.iloadN X0.here hx rfl (hb hby dk_73) rfl k) ?_
                  show Rch p e below s₁ (mkF m 74 #[.val (.int pi)] [(.int pi)]) _
                  refine Rch.st (fun _ k => XS.bipush X0.here hx rfl (hb hby dk_74)  k) ?_
                  show Rch p e below s₁ (mkF m 76 #[.val (.int pi)] [(.int (8 : Int32)), (.int pi)]) _
                  by_cases hk8 : pi = (8 : Int32)
                  · skip
                    refine Rch.st (fun _ k => XS.icmpNo X0.here hx rfl (hb hby dk_76) rfl (teq hk8).2 k) ?_
                    show Rch p e below s₁ (mkF m 79 #[.val (.int pi)] []) _
                    obtain ⟨T66, X66, e66, st66⟩ := getS2 X0 hx hZ hown (host := "") (Or.inl (wq hw 78 rfl)) Via.refl e0 B.2.2.2.2.2.2.2.2.1 (g := (mkF m 79 #[.val (.int pi)] [])) rfl (hb hby dk_79)
                    refine Rch.st st66 ?_
                    show Rch p e below T66 (mkF m 82 #[.val (.int pi)] [(.ref (kw 8))]) _
                    have e : kidx pi = 8 := by subst hk8; decide
                    exact Rch.fin (Q := Q_kind Z kw pi h0 n0) X66 (v := some (.ref (kw 8))) (fun h => by rw [Bd.returns] at h; cases h) (BodyLoose.notSynchronized Bd) (fun fs hr => retR X66 hx Bd.returns rfl rfl (hb hby dk_82) hr) (by rw [e66]; exact ⟨by rw [e], N0, rfl⟩) (by decide) (by decide)
                  · skip
                    refine Rch.st (fun _ k => XS.icmpYes X0.here hx rfl (pc0 := 76) (pc' := 83) rfl (hb hby dk_76) rfl (feq hk8).2 (by decide) (by decide) k) ?_
                    show Rch p e below s₁ (mkF m 83 #[.val (.int pi)] []) _
                    obtain ⟨T67, X67, e67, st67⟩ := getS2 X0 hx hZ hown (host := "") (Or.inl (wq hw 76 rfl)) Via.refl e0 B.2.2.2.2.2.2.2.2.2.1 (g := (mkF m 83 #[.val (.int pi)] [])) rfl (hb hby dk_83)
                    refine Rch.st st67 ?_
                    show Rch p e below T67 (mkF m 86 #[.val (.int pi)] [(.ref (kw 9))]) _
                    have e : kidx pi = 9 := by simp [kidx, hk0, hk1, hk2, hk3, hk4, hk5, hk6, hk7, hk8]
                    exact Rch.fin (Q := Q_kind Z kw pi h0 n0) X67 (v := some (.ref (kw 9))) (fun h => by rw [Bd.returns] at h; cases h) (BodyLoose.notSynchronized Bd) (fun fs hr => retR X67 hx Bd.returns rfl rfl (hb hby dk_86) hr) (by rw [e67]; exact ⟨by rw [e], N0, rfl⟩) (by decide) (by decide)
theorem dt_0 : decode prog_8_method_1_code 0 = .ok (.aload_n 0, 1) := by decide +kernel
theorem dt_1 : decode prog_8_method_1_code 1 = .ok (.invokespecial 1, 3) := by decide +kernel
theorem dt_4 : decode prog_8_method_1_code 4 = .ok (.aload_n 0, 1) := by decide +kernel
theorem dt_5 : decode prog_8_method_1_code 5 = .ok (.aload_n 1, 1) := by decide +kernel
theorem dt_6 : decode prog_8_method_1_code 6 = .ok (.putfield 7, 3) := by decide +kernel
theorem dt_9 : decode prog_8_method_1_code 9 = .ok (.aload_n 0, 1) := by decide +kernel
theorem dt_10 : decode prog_8_method_1_code 10 = .ok (.aload_n 2, 1) := by decide +kernel
theorem dt_11 : decode prog_8_method_1_code 11 = .ok (.putfield 13, 3) := by decide +kernel
theorem dt_14 : decode prog_8_method_1_code 14 = .ok (.aload_n 0, 1) := by decide +kernel
theorem dt_15 : decode prog_8_method_1_code 15 = .ok (.iload_n 3, 1) := by decide +kernel
theorem dt_16 : decode prog_8_method_1_code 16 = .ok (.putfield 17, 3) := by decide +kernel
theorem dt_19 : decode prog_8_method_1_code 19 = .ok (.aload_n 0, 1) := by decide +kernel
theorem dt_20 : decode prog_8_method_1_code 20 = .ok (.aload 4, 2) := by decide +kernel
theorem dt_22 : decode prog_8_method_1_code 22 = .ok (.putfield 21, 3) := by decide +kernel
theorem dt_25 : decode prog_8_method_1_code 25 = .ok (.return_, 1) := by decide +kernel
theorem pn_tok : plainName "com/example/rhea/rhea/jq/Token" = true := by first | (simp [plainName, overriddenIn]; done) | decide +kernel
theorem ef_tok (m : MethodId) (x0 : Addr) (x1 : Addr) (x2 : Addr) (x3 : Int32) : entryFrame m #[(.ref x0), (.ref x1), (.ref x2), (.int x3), .null] 5 = mkF m 0 #[.val (.ref x0), .val (.ref x1), .val (.ref x2), .val (.int x3), .val .null] [] := by first | (simp [entryFrame, mkF, argsToLocals, Value.category]; done) | rfl
def Q_tok (Z : State) (ta tk tt : Addr) (po : Int32) (h0 : Heap) (n0 : Nat) (v : Option Value) (h : Heap) (L : List Loc) : Prop := v = none ∧ Fr n0 L ∧ Keep h0 h [ta] ∧ Exa Z h ta "com/example/rhea/rhea/jq/Token" ∧ Fld Z h ta "com/example/rhea/rhea/jq/Token" "kind" "Lcom/example/rhea/rhea/jq/Token$Kind;" (.ref tk) ∧ Fld Z h ta "com/example/rhea/rhea/jq/Token" "text" "Ljava/lang/String;" (.ref tt)
set_option maxRecDepth 65536 in
set_option maxHeartbeats 40000000 in
theorem rm_tok (l : Launch) (Z : State) (a0 : Array Value) (hw : ∀ d ∈ tables_1, d.before a0 Z = true) (ws : List Jvm.Cond) (ta tk tt : Addr) (po : Int32) (h0 : Heap) (n0 : Nat) (Z0 : n0 ≤ h0.size) (hthis : n0 ≤ ta) (E1 : Exa Z h0 ta "com/example/rhea/rhea/jq/Token") (F_kind : Fld Z h0 ta "com/example/rhea/rhea/jq/Token" "kind" "Lcom/example/rhea/rhea/jq/Token$Kind;" .null) (F_text : Fld Z h0 ta "com/example/rhea/rhea/jq/Token" "text" "Ljava/lang/String;" .null) (F_offset : Fld Z h0 ta "com/example/rhea/rhea/jq/Token" "offset" "I" (.int (0 : Int32))) (F_pieces : Fld Z h0 ta "com/example/rhea/rhea/jq/Token" "pieces" "Ljava/util/List;" .null) :
    MetFree l (⟨"com/example/rhea/rhea/jq/Token", "<init>", "(Lcom/example/rhea/rhea/jq/Token$Kind;Ljava/lang/String;ILjava/util/List;)V"⟩ : MethodName) (head1 (Jvm.Cond.code (⟨"com/example/rhea/rhea/jq/Token", "<init>", "(Lcom/example/rhea/rhea/jq/Token$Kind;Ljava/lang/String;ILjava/util/List;)V"⟩ : MethodName) prog_8_method_1_code 5 none :: ws) ({ frames := 1, cells := 0, slots := 0, locals := 12 } : Room)) (fun a U => a = #[(.ref ta), (.ref tk), (.ref tt), (.int po), .null] ∧ Z.Warmed39 U.vm ∧ U.heap = h0) (fun _ _ _ _ _ => True) (fun _ U o U' => ∃ v L, o = .returned v ∧ Q_tok Z ta tk tt po h0 n0 v U'.heap L ∧ FrameEnd U o U' L ({ frames := 1, cells := 0, slots := 0, locals := 12 } : Room).cells ({ frames := 1, cells := 0, slots := 0, locals := 12 } : Room).slots) := by
  refine MetFree.of_bodySF (plainFor_of_name pn_tok) hisR ?_
  intro p e s m args below meth c s₁ Bd hml0 hP hK
  obtain ⟨rfl, hZ, hh⟩ := hP
  have hx := Bd.exec
  have hby := Bd.bytes
  have hml : c.maxLocals = 5 := hml0
  have hown : s.vm.findClass "com/example/rhea/rhea/jq/Token" = some m.cls := findClass_of_methodNamed Bd.named
  have hnm := (name_of_methodNamed Bd.named Bd.method).1
  have X0 : Stand p l e ({ frames := 1, cells := 0, slots := 0, locals := 12 } : Room) s m #[(.ref ta), (.ref tk), (.ref tt), (.int po), .null] below meth c s₁ [] 0 0 := Stand.of_body Bd
  have e0 : s₁.heap = h0 := by rw [← hh, Bd.state]; rfl
  have N0 := Fr.nil n0
  show Rch p e below s₁ (entryFrame m #[(.ref ta), (.ref tk), (.ref tt), (.int po), .null] 5) (fun U o => ∃ v L, o = .returned v ∧ Q_tok Z ta tk tt po h0 n0 v U.heap L ∧ FrameEnd s o U L ({ frames := 1, cells := 0, slots := 0, locals := 12 } : Room).cells ({ frames := 1, cells := 0, slots := 0, locals := 12 } : Room).slots)
  refine Rch.cast (ef_tok m ta tk tt po) ?_
  show Rch p e below s₁ (mkF m 0 #[.val (.ref ta), .val (.ref tk), .val (.ref tt), .val (.int po), .val .null] []) _
  refine Rch.st (fun _ k => XS.aloadN X0.here hx rfl (hb hby dt_0) rfl rfl k) ?_
  show Rch p e below s₁ (mkF m 1 #[.val (.ref ta), .val (.ref tk), .val (.ref tt), .val (.int po), .val .null] [(.ref ta)]) _
  obtain ⟨T68, X68, e68, st68⟩ := initO X0 hx hZ hown (wq hw 50 rfl) (wq hw 17 rfl) (wq hw 18 rfl) e0 (g := (mkF m 1 #[.val (.ref ta), .val (.ref tk), .val (.ref tt), .val (.int po), .val .null] [(.ref ta)])) rfl (by rw [hml]; rfl) rfl (hb hby dt_1) (by decide) (W := 0) (by show 2 * 0 + _ ≤ _; exact Nat.le_of_eq rfl) (by decide)
  refine Rch.st st68 ?_
  show Rch p e below T68 (mkF m 4 #[.val (.ref ta), .val (.ref tk), .val (.ref tt), .val (.int po), .val .null] []) _
  refine Rch.st (fun _ k => XS.aloadN X68.here hx rfl (hb hby dt_4) rfl rfl k) ?_
  show Rch p e below T68 (mkF m 5 #[.val (.ref ta), .val (.ref tk), .val (.ref tt), .val (.int po), .val .null] [(.ref ta)]) _
  refine Rch.st (fun _ k => XS.aloadN X68.here hx rfl (hb hby dt_5) rfl rfl k) ?_
  show Rch p e below T68 (mkF m 6 #[.val (.ref ta), .val (.ref tk), .val (.ref tt), .val (.int po), .val .null] [(.ref tk), (.ref ta)]) _
  obtain ⟨T69, h69, X69, e69, W69, st69⟩ := putF X68 hx hZ hown (host := "") (Or.inl (wq hw 51 rfl)) Via.refl e68 F_kind E1 (Or.inr ⟨(wq hw 52 rfl), rfl, hnm⟩) (wq hw 39 rfl) (ty := (.object "com/example/rhea/rhea/jq/Token$Kind")) (by decide) rfl rfl (g := (mkF m 6 #[.val (.ref ta), .val (.ref tk), .val (.ref tt), .val (.int po), .val .null] [(.ref tk), (.ref ta)])) rfl rfl (hb hby dt_6)
  have N69 := Fr.snoc X69 N0 hthis
  refine Rch.st st69 ?_
  show Rch p e below T69 (mkF m 9 #[.val (.ref ta), .val (.ref tk), .val (.ref tt), .val (.int po), .val .null] []) _
  have G70 := F_kind.same W69
  have G71 := F_text.other W69 (Or.inr (slot_ne (C := "com/example/rhea/rhea/jq/Token") (Or.inr (wq hw 54 rfl)) (Or.inr (wq hw 52 rfl)) (by decide) (t := (.object "java/lang/String")) (t' := (.object "com/example/rhea/rhea/jq/Token$Kind")) (by decide) (by decide)))
  have G72 := F_offset.other W69 (Or.inr (slot_ne (C := "com/example/rhea/rhea/jq/Token") (Or.inr (wq hw 56 rfl)) (Or.inr (wq hw 52 rfl)) (by decide) (t := .int) (t' := (.object "com/example/rhea/rhea/jq/Token$Kind")) (by decide) (by decide)))
  have G73 := F_pieces.other W69 (Or.inr (slot_ne (C := "com/example/rhea/rhea/jq/Token") (Or.inr (wq hw 58 rfl)) (Or.inr (wq hw 52 rfl)) (by decide) (t := (.object "java/util/List")) (t' := (.object "com/example/rhea/rhea/jq/Token$Kind")) (by decide) (by decide)))
  have E_74 := E1.wr W69
  have K_75 : Keep h0 h69 [ta] := (Keep.refl _ _).wr W69 (Or.inl (List.mem_singleton.mpr rfl))
  refine Rch.st (fun _ k => XS.aloadN X69.here hx rfl (hb hby dt_9) rfl rfl k) ?_
  show Rch p e below T69 (mkF m 10 #[.val (.ref ta), .val (.ref tk), .val (.ref tt), .val (.int po), .val .null] [(.ref ta)]) _
  refine Rch.st (fun _ k => XS.aloadN X69.here hx rfl (hb hby dt_10) rfl rfl k) ?_
  show Rch p e below T69 (mkF m 11 #[.val (.ref ta), .val (.ref tk), .val (.ref tt), .val (.int po), .val .null] [(.ref tt), (.ref ta)]) _
  obtain ⟨T76, h76, X76, e76, W76, st76⟩ := putF X69 hx hZ hown (host := "") (Or.inl (wq hw 53 rfl)) Via.refl e69 G71 E_74 (Or.inr ⟨(wq hw 54 rfl), rfl, hnm⟩) (wq hw 39 rfl) (ty := (.object "java/lang/String")) (by decide) rfl rfl (g := (mkF m 11 #[.val (.ref ta), .val (.ref tk), .val (.ref tt), .val (.int po), .val .null] [(.ref tt), (.ref ta)])) rfl rfl (hb hby dt_11)
  have N76 := Fr.snoc X76 N69 hthis
  refine Rch.st st76 ?_
  show Rch p e below T76 (mkF m 14 #[.val (.ref ta), .val (.ref tk), .val (.ref tt), .val (.int po), .val .null] []) _
  have G77 := G70.other W76 (Or.inr (slot_ne (C := "com/example/rhea/rhea/jq/Token") (Or.inr (wq hw 52 rfl)) (Or.inr (wq hw 54 rfl)) (by decide) (t := (.object "com/example/rhea/rhea/jq/Token$Kind")) (t' := (.object "java/lang/String")) (by decide) (by decide)))
  have G78 := G71.same W76
  have G79 := G72.other W76 (Or.inr (slot_ne (C := "com/example/rhea/rhea/jq/Token") (Or.inr (wq hw 56 rfl)) (Or.inr (wq hw 54 rfl)) (by decide) (t := .int) (t' := (.object "java/lang/String")) (by decide) (by decide)))
  have G80 := G73.other W76 (Or.inr (slot_ne (C := "com/example/rhea/rhea/jq/Token") (Or.inr (wq hw 58 rfl)) (Or.inr (wq hw 54 rfl)) (by decide) (t := (.object "java/util/List")) (t' := (.object "java/lang/String")) (by decide) (by decide)))
  have E_81 := E_74.wr W76
  have K_82 : Keep h0 h76 [ta] := K_75.wr W76 (Or.inl (List.mem_singleton.mpr rfl))
  refine Rch.st (fun _ k => XS.aloadN X76.here hx rfl (hb hby dt_14) rfl rfl k) ?_
  show Rch p e below T76 (mkF m 15 #[.val (.ref ta), .val (.ref tk), .val (.ref tt), .val (.int po), .val .null] [(.ref ta)]) _
  refine Rch.st (fun _ k => XS.iloadN X76.here hx rfl (hb hby dt_15) rfl k) ?_
  show Rch p e below T76 (mkF m 16 #[.val (.ref ta), .val (.ref tk), .val (.ref tt), .val (.int po), .val .null] [(.int po), (.ref ta)]) _
  obtain ⟨T83, h83, X83, e83, W83, st83⟩ := putF X76 hx hZ hown (host := "") (Or.inl (wq hw 55 rfl)) Via.refl e76 G79 E_81 (Or.inr ⟨(wq hw 56 rfl), rfl, hnm⟩) (wq hw 39 rfl) (ty := .int) (by decide) rfl rfl (g := (mkF m 16 #[.val (.ref ta), .val (.ref tk), .val (.ref tt), .val (.int po), .val .null] [(.int po), (.ref ta)])) rfl rfl (hb hby dt_16)
  have N83 := Fr.snoc X83 N76 hthis
  refine Rch.st st83 ?_
  show Rch p e below T83 (mkF m 19 #[.val (.ref ta), .val (.ref tk), .val (.ref tt), .val (.int po), .val .null] []) _
  have G84 := G77.other W83 (Or.inr (slot_ne (C := "com/example/rhea/rhea/jq/Token") (Or.inr (wq hw 52 rfl)) (Or.inr (wq hw 56 rfl)) (by decide) (t := (.object "com/example/rhea/rhea/jq/Token$Kind")) (t' := .int) (by decide) (by decide)))
  have G85 := G78.other W83 (Or.inr (slot_ne (C := "com/example/rhea/rhea/jq/Token") (Or.inr (wq hw 54 rfl)) (Or.inr (wq hw 56 rfl)) (by decide) (t := (.object "java/lang/String")) (t' := .int) (by decide) (by decide)))
  have G86 := G79.same W83
  have G87 := G80.other W83 (Or.inr (slot_ne (C := "com/example/rhea/rhea/jq/Token") (Or.inr (wq hw 58 rfl)) (Or.inr (wq hw 56 rfl)) (by decide) (t := (.object "java/util/List")) (t' := .int) (by decide) (by decide)))
  have E_88 := E_81.wr W83
  have K_89 : Keep h0 h83 [ta] := K_82.wr W83 (Or.inl (List.mem_singleton.mpr rfl))
  refine Rch.st (fun _ k => XS.aloadN X83.here hx rfl (hb hby dt_19) rfl rfl k) ?_
  show Rch p e below T83 (mkF m 20 #[.val (.ref ta), .val (.ref tk), .val (.ref tt), .val (.int po), .val .null] [(.ref ta)]) _
  refine Rch.st (fun _ k => XS.aload X83.here hx rfl (hb hby dt_20) rfl rfl k) ?_
  show Rch p e below T83 (mkF m 22 #[.val (.ref ta), .val (.ref tk), .val (.ref tt), .val (.int po), .val .null] [.null, (.ref ta)]) _
  obtain ⟨T90, h90, X90, e90, W90, st90⟩ := putF X83 hx hZ hown (host := "") (Or.inl (wq hw 57 rfl)) Via.refl e83 G87 E_88 (Or.inr ⟨(wq hw 58 rfl), rfl, hnm⟩) (wq hw 39 rfl) (ty := (.object "java/util/List")) (by decide) rfl rfl (g := (mkF m 22 #[.val (.ref ta), .val (.ref tk), .val (.ref tt), .val (.int po), .val .null] [.null, (.ref ta)])) rfl rfl (hb hby dt_22)
  have N90 := Fr.snoc X90 N83 hthis
  refine Rch.st st90 ?_
  show Rch p e below T90 (mkF m 25 #[.val (.ref ta), .val (.ref tk), .val (.ref tt), .val (.int po), .val .null] []) _
  have G91 := G84.other W90 (Or.inr (slot_ne (C := "com/example/rhea/rhea/jq/Token") (Or.inr (wq hw 52 rfl)) (Or.inr (wq hw 58 rfl)) (by decide) (t := (.object "com/example/rhea/rhea/jq/Token$Kind")) (t' := (.object "java/util/List")) (by decide) (by decide)))
  have G92 := G85.other W90 (Or.inr (slot_ne (C := "com/example/rhea/rhea/jq/Token") (Or.inr (wq hw 54 rfl)) (Or.inr (wq hw 58 rfl)) (by decide) (t := (.object "java/lang/String")) (t' := (.object "java/util/List")) (by decide) (by decide)))
  have G93 := G86.other W90 (Or.inr (slot_ne (C := "com/example/rhea/rhea/jq/Token") (Or.inr (wq hw 56 rfl)) (Or.inr (wq hw 58 rfl)) (by decide) (t := .int) (t' := (.object "java/util/List")) (by decide) (by decide)))
  have G94 := G87.same W90
  have E_95 := E_88.wr W90
  have K_96 : Keep h0 h90 [ta] := K_89.wr W90 (Or.inl (List.mem_singleton.mpr rfl))
  exact Rch.fin (Q := Q_tok Z ta tk tt po h0 n0) X90 (v := none) (fun _ => rfl) (BodyLoose.notSynchronized Bd) (fun fs hr => X90.returnOut hx Bd.returns (hb hby dt_25) hr) (by rw [e90]; exact ⟨rfl, N90, K_96, E_95, G91, G92⟩) (by decide) (by decide)
theorem di_0 : decode prog_8_method_2_code 0 = .ok (.aload_n 0, 1) := by decide +kernel
theorem di_1 : decode prog_8_method_2_code 1 = .ok (.getfield 7, 3) := by decide +kernel
theorem di_4 : decode prog_8_method_2_code 4 = .ok (.aload_n 1, 1) := by decide +kernel
theorem di_5 : decode prog_8_method_2_code 5 = .ok (.if_acmp .ne 18, 3) := by decide +kernel
theorem di_8 : decode prog_8_method_2_code 8 = .ok (.aload_n 0, 1) := by decide +kernel
theorem di_9 : decode prog_8_method_2_code 9 = .ok (.getfield 13, 3) := by decide +kernel
theorem di_12 : decode prog_8_method_2_code 12 = .ok (.aload_n 2, 1) := by decide +kernel
theorem di_13 : decode prog_8_method_2_code 13 = .ok (.invokevirtual 25, 3) := by decide +kernel
theorem di_16 : decode prog_8_method_2_code 16 = .ok (.ifCond .eq 7, 3) := by decide +kernel
theorem di_19 : decode prog_8_method_2_code 19 = .ok (.iconst 1, 1) := by decide +kernel
theorem di_20 : decode prog_8_method_2_code 20 = .ok (.goto 4, 3) := by decide +kernel
theorem di_23 : decode prog_8_method_2_code 23 = .ok (.iconst 0, 1) := by decide +kernel
theorem di_24 : decode prog_8_method_2_code 24 = .ok (.ireturn, 1) := by decide +kernel
theorem pn_is : plainName "com/example/rhea/rhea/jq/Token" = true := by first | (simp [plainName, overriddenIn]; done) | decide +kernel
theorem ef_is (m : MethodId) (x0 : Addr) (x1 : Addr) (x2 : Addr) : entryFrame m #[(.ref x0), (.ref x1), (.ref x2)] 3 = mkF m 0 #[.val (.ref x0), .val (.ref x1), .val (.ref x2)] [] := by first | (simp [entryFrame, mkF, argsToLocals, Value.category]; done) | rfl
def Q_is (Z : State) (ta tk tt wk wt : Addr) (cs ds : List Int32) (h0 : Heap) (n0 : Nat) (v : Option Value) (h : Heap) (L : List Loc) : Prop := ∃ r, v = some (.int r) ∧ Fr n0 L ∧ h = h0 ∧ (tk = wk → cs = ds → r = 1) ∧ (¬ (tk = wk ∧ cs = ds) → r = 0)
set_option maxRecDepth 65536 in
set_option maxHeartbeats 40000000 in
theorem rm_is (l : Launch) (Z : State) (a0 : Array Value) (hw : ∀ d ∈ tables_1, d.before a0 Z = true) (ws : List Jvm.Cond) (ta tk tt wk wt : Addr) (cs ds : List Int32) (h0 : Heap) (n0 : Nat) (Z0 : n0 ≤ h0.size) (F1 : Fld Z h0 ta "com/example/rhea/rhea/jq/Token" "kind" "Lcom/example/rhea/rhea/jq/Token$Kind;" (.ref tk)) (F2 : Fld Z h0 ta "com/example/rhea/rhea/jq/Token" "text" "Ljava/lang/String;" (.ref tt)) (S1 : StrA Z h0 tt cs) (S2 : StrA Z h0 wt ds) (l1 : cs.length ≤ 4000) (l2 : ds.length ≤ 4000) (CS : Cmp Z h0) :
    MetFree l (⟨"com/example/rhea/rhea/jq/Token", "is", "(Lcom/example/rhea/rhea/jq/Token$Kind;Ljava/lang/String;)Z"⟩ : MethodName) (head1 (Jvm.Cond.code (⟨"com/example/rhea/rhea/jq/Token", "is", "(Lcom/example/rhea/rhea/jq/Token$Kind;Ljava/lang/String;)Z"⟩ : MethodName) prog_8_method_2_code 3 (some .boolean) :: ws) ({ frames := 2, cells := 0, slots := 0, locals := 28 } : Room)) (fun a U => a = #[(.ref ta), (.ref wk), (.ref wt)] ∧ Z.Warmed39 U.vm ∧ U.heap = h0) (fun _ _ _ _ _ => True) (fun _ U o U' => ∃ v L, o = .returned v ∧ Q_is Z ta tk tt wk wt cs ds h0 n0 v U'.heap L ∧ FrameEnd U o U' L ({ frames := 2, cells := 0, slots := 0, locals := 28 } : Room).cells ({ frames := 2, cells := 0, slots := 0, locals := 28 } : Room).slots) := by
  refine MetFree.of_bodySF (plainFor_of_name pn_is) hisR ?_
  intro p e s m args below meth c s₁ Bd hml0 hP hK
  obtain ⟨rfl, hZ, hh⟩ := hP
  have hx := Bd.exec
  have hby := Bd.bytes
  have hml : c.maxLocals = 3 := hml0
  have hown : s.vm.findClass "com/example/rhea/rhea/jq/Token" = some m.cls := findClass_of_methodNamed Bd.named
  have hnm := (name_of_methodNamed Bd.named Bd.method).1
  have X0 : Stand p l e ({ frames := 2, cells := 0, slots := 0, locals := 28 } : Room) s m #[(.ref ta), (.ref wk), (.ref wt)] below meth c s₁ [] 0 0 := Stand.of_body Bd
  have e0 : s₁.heap = h0 := by rw [← hh, Bd.state]; rfl
  have N0 := Fr.nil n0
  show Rch p e below s₁ (entryFrame m #[(.ref ta), (.ref wk), (.ref wt)] 3) (fun U o => ∃ v L, o = .returned v ∧ Q_is Z ta tk tt wk wt cs ds h0 n0 v U.heap L ∧ FrameEnd s o U L ({ frames := 2, cells := 0, slots := 0, locals := 28 } : Room).cells ({ frames := 2, cells := 0, slots := 0, locals := 28 } : Room).slots)
  refine Rch.cast (ef_is m ta wk wt) ?_
  show Rch p e below s₁ (mkF m 0 #[.val (.ref ta), .val (.ref wk), .val (.ref wt)] []) _
  refine Rch.st (fun _ k => XS.aloadN X0.here hx rfl (hb hby di_0) rfl rfl k) ?_
  show Rch p e below s₁ (mkF m 1 #[.val (.ref ta), .val (.ref wk), .val (.ref wt)] [(.ref ta)]) _
  obtain ⟨T97, X97, e97, st97⟩ := getF X0 hx hZ hown (host := "") (Or.inl (wq hw 51 rfl)) Via.refl e0 F1 (g := (mkF m 1 #[.val (.ref ta), .val (.ref wk), .val (.ref wt)] [(.ref ta)])) rfl rfl (hb hby di_1)
  refine Rch.st st97 ?_
  show Rch p e below T97 (mkF m 4 #[.val (.ref ta), .val (.ref wk), .val (.ref wt)] [(.ref tk)]) _
  refine Rch.st (fun _ k => XS.aloadN X97.here hx rfl (hb hby di_4) rfl rfl k) ?_
  show Rch p e below T97 (mkF m 5 #[.val (.ref ta), .val (.ref wk), .val (.ref wt)] [(.ref wk), (.ref tk)]) _
  by_cases hq0 : tk = wk
  · skip
    subst hq0
    show Rch p e below T97 (mkF m 5 #[.val (.ref ta), .val (.ref tk), .val (.ref wt)] [(.ref tk), (.ref tk)]) _
    refine Rch.st (fun _ k => XT.acmpNo X97.here hx rfl (hb hby di_5) rfl rfl rfl (acN _) k) ?_
    show Rch p e below T97 (mkF m 8 #[.val (.ref ta), .val (.ref tk), .val (.ref wt)] []) _
    refine Rch.st (fun _ k => XS.aloadN X97.here hx rfl (hb hby di_8) rfl rfl k) ?_
    show Rch p e below T97 (mkF m 9 #[.val (.ref ta), .val (.ref tk), .val (.ref wt)] [(.ref ta)]) _
    obtain ⟨T98, X98, e98, st98⟩ := getF X97 hx hZ hown (host := "") (Or.inl (wq hw 53 rfl)) Via.refl e97 F2 (g := (mkF m 9 #[.val (.ref ta), .val (.ref tk), .val (.ref wt)] [(.ref ta)])) rfl rfl (hb hby di_9)
    refine Rch.st st98 ?_
    show Rch p e below T98 (mkF m 12 #[.val (.ref ta), .val (.ref tk), .val (.ref wt)] [(.ref tt)]) _
    refine Rch.st (fun _ k => XS.aloadN X98.here hx rfl (hb hby di_12) rfl rfl k) ?_
    show Rch p e below T98 (mkF m 13 #[.val (.ref ta), .val (.ref tk), .val (.ref wt)] [(.ref wt), (.ref tt)]) _
    obtain ⟨cq99, kq99, q99a, q99b, q99c⟩ := isOf hZ e98 S1.exa
    obtain ⟨_, _, ⟨T99, L99, k99, n99⟩, -, X99, ⟨Lc99, hQ99, l99, y99, z99⟩, st99⟩ := X98.virtualBack hx (y := (⟨"java/lang/String", "equals", "(Ljava/lang/Object;)Z"⟩ : MethodName)) (z := (⟨"java/lang/String", "equals", "(Ljava/lang/Object;)Z"⟩ : MethodName)) hown (mvT hZ (wq hw 64 rfl)) (mvT hZ (wq hw 65 rfl)) (notFace_of_selects (args := #[]) (mvT hZ (wq hw 67 rfl))) (mvT hZ (wq hw 67 rfl)) (mvT hZ (wq hw 66 rfl)) (by decide) (eqS (W := 0) hZ hw S1 S2 CS l1 l2 (by decide) (by decide)) q99a q99c (g := (mkF m 13 #[.val (.ref ta), .val (.ref tk), .val (.ref wt)] [(.ref wt), (.ref tt)])) rfl (by rw [hml]; rfl) (Steps.refl _) (argsL := [(.ref wt)]) (rest := []) (lenOf pd_2 rfl) rfl (by show 2 * 0 + _ ≤ _; exact Nat.le_of_eq rfl) (hb hby di_13) (fun _ _ => ⟨rfl, e98, (by decide : 0 + 0 ≤ _), (by decide : 0 + 0 ≤ _)⟩)
    dsimp only [Pt.U, Pt.locs, Pt.cells, Pt.slots] at X99 l99 y99 z99 st99 hQ99
    subst l99 y99 z99
    obtain ⟨hc99, rfl, e99⟩ := hQ99
    have N99 := Fr.app N0 (Fr.nil n0)
    rcases hc99 with ⟨rfl, hq99⟩ | ⟨rfl, hq99⟩
    · skip
      refine Rch.go st99 ?_
      show Rch p e below T99 (mkF m 16 #[.val (.ref ta), .val (.ref tk), .val (.ref wt)] [(.int (1 : Int32))]) _
      refine Rch.st (fun _ k => XS.ifNo X99.here hx rfl (hb hby di_16) rfl (by decide : ifCond.holds .eq (1 : Int32) = false) k) ?_
      show Rch p e below T99 (mkF m 19 #[.val (.ref ta), .val (.ref tk), .val (.ref wt)] []) _
      refine Rch.st (fun _ k => XS.iconst X99.here hx rfl (hb hby di_19)  k) ?_
      show Rch p e below T99 (mkF m 20 #[.val (.ref ta), .val (.ref tk), .val (.ref wt)] [(.int (1 : Int32))]) _
      refine Rch.st (fun _ k => XS.goto X99.here hx rfl (pc0 := 20) (pc' := 24) rfl (hb hby di_20) (by decide) (by decide) k) ?_
      show Rch p e below T99 (mkF m 24 #[.val (.ref ta), .val (.ref tk), .val (.ref wt)] [(.int (1 : Int32))]) _
      exact Rch.fin (Q := Q_is Z ta tk tt tk wt cs ds h0 n0) X99 (v := some (.int (1 : Int32))) (fun h => by rw [Bd.returns] at h; cases h) (BodyLoose.notSynchronized Bd) (fun fs hr => retN X99 hx (t := .boolean) Bd.returns (by simp) (hb hby di_24) hr) (by rw [e99]; exact ⟨1, rfl, N99, rfl, fun _ _ => rfl, fun q => absurd ⟨rfl, hq99⟩ q⟩) (by decide) (by decide)
    · skip
      refine Rch.go st99 ?_
      show Rch p e below T99 (mkF m 16 #[.val (.ref ta), .val (.ref tk), .val (.ref wt)] [(.int (0 : Int32))]) _
      refine Rch.st (fun _ k => XS.ifYes X99.here hx rfl (pc0 := 16) (pc' := 23) rfl (hb hby di_16) rfl (by decide : ifCond.holds .eq (0 : Int32) = true) (by decide) (by decide) k) ?_
      show Rch p e below T99 (mkF m 23 #[.val (.ref ta), .val (.ref tk), .val (.ref wt)] []) _
      refine Rch.st (fun _ k => XS.iconst X99.here hx rfl (hb hby di_23)  k) ?_
      show Rch p e below T99 (mkF m 24 #[.val (.ref ta), .val (.ref tk), .val (.ref wt)] [(.int (0 : Int32))]) _
      exact Rch.fin (Q := Q_is Z ta tk tt tk wt cs ds h0 n0) X99 (v := some (.int (0 : Int32))) (fun h => by rw [Bd.returns] at h; cases h) (BodyLoose.notSynchronized Bd) (fun fs hr => retN X99 hx (t := .boolean) Bd.returns (by simp) (hb hby di_24) hr) (by rw [e99]; exact ⟨0, rfl, N99, rfl, fun _ q => absurd q hq99, fun _ => rfl⟩) (by decide) (by decide)
  · skip
    refine Rch.st (fun _ k => XT.acmpYes X97.here hx rfl (pc0 := 5) (pc' := 23) rfl (hb hby di_5) rfl rfl rfl (acY hq0) (by decide) (by decide) k) ?_
    show Rch p e below T97 (mkF m 23 #[.val (.ref ta), .val (.ref wk), .val (.ref wt)] []) _
    refine Rch.st (fun _ k => XS.iconst X97.here hx rfl (hb hby di_23)  k) ?_
    show Rch p e below T97 (mkF m 24 #[.val (.ref ta), .val (.ref wk), .val (.ref wt)] [(.int (0 : Int32))]) _
    exact Rch.fin (Q := Q_is Z ta tk tt wk wt cs ds h0 n0) X97 (v := some (.int (0 : Int32))) (fun h => by rw [Bd.returns] at h; cases h) (BodyLoose.notSynchronized Bd) (fun fs hr => retN X97 hx (t := .boolean) Bd.returns (by simp) (hb hby di_24) hr) (by rw [e97]; exact ⟨0, rfl, N0, rfl, fun q => absurd q hq0, fun _ => rfl⟩) (by decide) (by decide)
theorem rem3 (x : Int32) : (x &&& (3 : Int32)) % (3 : Int32) = 0 ∨ (x &&& (3 : Int32)) % (3 : Int32) = 1 ∨ (x &&& (3 : Int32)) % (3 : Int32) = 2 := by
  have a := c_mask x 3 2 (by decide) (by decide)
  have b := (c_irem (x &&& 3) 3 3 (by decide)).1 (by rw [a]; exact Int.emod_nonneg _ (by decide))
  have c1 := Int.emod_nonneg (x &&& 3).toInt (show (3 : Int) ≠ 0 by decide)
  have c2 := Int.emod_lt_of_pos (x &&& 3).toInt (show (0 : Int) < 3 by decide)
  have e0 : (0 : Int32).toInt = 0 := rfl
  have e1 : (1 : Int32).toInt = 1 := rfl
  have e2 : (2 : Int32).toInt = 2 := rfl
  rw [← b] at c1 c2
  rcases (show ((x &&& 3) % 3).toInt = 0 ∨ ((x &&& 3) % 3).toInt = 1 ∨ ((x &&& 3) % 3).toInt = 2 by omega) with q | q | q
  · exact Or.inl (Int32.toInt_inj.mp (q.trans e0.symm))
  · exact Or.inr (Or.inl (Int32.toInt_inj.mp (q.trans e1.symm)))
  · exact Or.inr (Or.inr (Int32.toInt_inj.mp (q.trans e2.symm)))
theorem strL_ne {la lb c0 c1 d0 d1 : Int32} (ra : la = 0 ∨ la = 1 ∨ la = 2) (rb : lb = 0 ∨ lb = 1 ∨ lb = 2) (h : ¬ la = lb) : ¬ strL la c0 c1 = strL lb d0 d1 := by
  rcases ra with rfl | rfl | rfl <;> rcases rb with rfl | rfl | rfl <;> first | exact absurd rfl h | (intro q; have z := congrArg List.length q; exact absurd z (Nat.ne_of_beq_eq_false rfl))
theorem pn_law : plainName "com/example/rhea/rhea/jq/TokenIsPinLaw" = true := by first | (simp [plainName, overriddenIn]; done) | decide +kernel
theorem ef_law (m : MethodId) (x0 : Int32) (x1 : Int32) (x2 : Int32) (x3 : Int32) : entryFrame m #[(.int x0), (.int x1), (.int x2), (.int x3)] maxLocals = mkF m 0 #[.val (.int x0), .val (.int x1), .val (.int x2), .val (.int x3), .unset, .unset, .unset, .unset, .unset, .unset, .unset, .unset, .unset, .unset, .unset, .unset, .unset] [] := by first | (simp [entryFrame, mkF, argsToLocals, Value.category, maxLocals]; done) | rfl
def Q_law (Z : State) (kw : Nat → Addr) (p0 p1 p2 p3 : Int32) (h0 : Heap) (n0 : Nat) (v : Option Value) (h : Heap) (L : List Loc) : Prop := v = some (.int 1) ∧ Fr n0 L
set_option maxRecDepth 65536 in
set_option maxHeartbeats 40000000 in
theorem rm_law (l : Launch) (Z : State) (a0 : Array Value) (hw : ∀ d ∈ tables_1, d.before a0 Z = true) (ws : List Jvm.Cond) (kw : Nat → Addr) (p0 p1 p2 p3 : Int32) (h0 : Heap) (n0 : Nat) (Z0 : n0 ≤ h0.size) (B : Bg Z h0 kw) :
    MetFree l x (head1 (Jvm.Cond.code x code maxLocals ret :: ws) room_1) (fun a U => a = #[(.int p0), (.int p1), (.int p2), (.int p3)] ∧ Z.Warmed39 U.vm ∧ U.heap = h0 ∧ CHv Z EL U.vm h0) (fun _ _ _ _ _ => True) (fun _ U o U' => ∃ v L, o = .returned v ∧ Q_law Z kw p0 p1 p2 p3 h0 n0 v U'.heap L ∧ CHr Z EL U.vm U.heap U'.vm U'.heap ∧ ReturnedEndW U o U' L 24 1152) := by
  refine MetFree.of_bodySF (plainFor_of_name pn_law) hisR ?_
  intro p e s m args below meth c s₁ Bd hml0 hP hK
  obtain ⟨rfl, hZ, hh, H0⟩ := hP
  have hx := Bd.exec
  have hby := Bd.bytes
  have hml : c.maxLocals = 17 := hml0
  have hown : s.vm.findClass "com/example/rhea/rhea/jq/TokenIsPinLaw" = some m.cls := findClass_of_methodNamed Bd.named
  have hnm := (name_of_methodNamed Bd.named Bd.method).1
  have X0 : Stand p l e room_1 (s.setVm s.vm) m #[(.int p0), (.int p1), (.int p2), (.int p3)] below meth c s₁ [] 0 0 := Stand.of_body Bd
  have e0 : s₁.heap = h0 := by rw [← hh, Bd.state]; rfl
  have N0 := Fr.nil n0
  have hS0 : s.Since s.vm 0 := (State.WarmedH.refl s).since _
  have R0 : CHr Z EL s.vm s.heap s.vm h0 := by rw [hh]; exact CHr.refl H0
  have hZ : Z.Warmed39 (s.setVm s.vm).vm := hZ
  have hown : (s.setVm s.vm).vm.findClass "com/example/rhea/rhea/jq/TokenIsPinLaw" = some m.cls := hown
  have hEL := ew hw
  have wS : ∀ d ∈ Bundle.stringAtoms, d.before a0 Z = true := fun d hd => hw d (ws_lit d hd)
  show Rch p e below s₁ (entryFrame m #[(.int p0), (.int p1), (.int p2), (.int p3)] maxLocals) (fun U o => ∃ v L, o = .returned v ∧ Q_law Z kw p0 p1 p2 p3 h0 n0 v U.heap L ∧ CHr Z EL s.vm s.heap U.vm U.heap ∧ ReturnedEndW s o U L 24 1152)
  refine Rch.cast (ef_law m p0 p1 p2 p3) ?_
  show Rch p e below s₁ (mkF m 0 #[.val (.int p0), .val (.int p1), .val (.int p2), .val (.int p3), .unset, .unset, .unset, .unset, .unset, .unset, .unset, .unset, .unset, .unset, .unset, .unset, .unset] []) _
  refine Rch.st (fun _ k => XS.iloadN X0.here hx rfl (hb hby at_0) rfl k) ?_
  show Rch p e below s₁ (mkF m 1 #[.val (.int p0), .val (.int p1), .val (.int p2), .val (.int p3), .unset, .unset, .unset, .unset, .unset, .unset, .unset, .unset, .unset, .unset, .unset, .unset, .unset] [(.int p0)]) _
  refine Rch.st (X0.ldcInt hx hown (mvT hZ (wq hw 0 rfl)) (g := (mkF m 1 #[.val (.int p0), .val (.int p1), .val (.int p2), .val (.int p3), .unset, .unset, .unset, .unset, .unset, .unset, .unset, .unset, .unset, .unset, .unset, .unset, .unset] [(.int p0)])) rfl (hb hby at_1)) ?_
  show Rch p e below s₁ (mkF m 3 #[.val (.int p0), .val (.int p1), .val (.int p2), .val (.int p3), .unset, .unset, .unset, .unset, .unset, .unset, .unset, .unset, .unset, .unset, .unset, .unset, .unset] [(.int (65535 : Int32)), (.int p0)]) _
  refine Rch.st (fun _ k => XS.iand X0.here hx rfl (hb hby at_3) rfl k) ?_
  show Rch p e below s₁ (mkF m 4 #[.val (.int p0), .val (.int p1), .val (.int p2), .val (.int p3), .unset, .unset, .unset, .unset, .unset, .unset, .unset, .unset, .unset, .unset, .unset, .unset, .unset] [(.int (p0 &&& (65535 : Int32)))]) _
  refine Rch.st (fun _ k => XS.bipush X0.here hx rfl (hb hby at_4)  k) ?_
  show Rch p e below s₁ (mkF m 6 #[.val (.int p0), .val (.int p1), .val (.int p2), .val (.int p3), .unset, .unset, .unset, .unset, .unset, .unset, .unset, .unset, .unset, .unset, .unset, .unset, .unset] [(.int (10 : Int32)), (.int (p0 &&& (65535 : Int32)))]) _
  refine Rch.st (fun _ k => iremM X0 hx rfl (hb hby at_6) rfl (by decide) k) ?_
  show Rch p e below s₁ (mkF m 7 #[.val (.int p0), .val (.int p1), .val (.int p2), .val (.int p3), .unset, .unset, .unset, .unset, .unset, .unset, .unset, .unset, .unset, .unset, .unset, .unset, .unset] [(.int ((p0 &&& (65535 : Int32)) % (10 : Int32)))]) _
  generalize hka : ((p0 &&& (65535 : Int32)) % (10 : Int32)) = ka
  obtain ⟨ia, eka⟩ : ∃ k : Fin 10, ka = Int32.ofNat k.val := hka ▸ rem10 _
  show Rch p e below s₁ (mkF m 7 #[.val (.int p0), .val (.int p1), .val (.int p2), .val (.int p3), .unset, .unset, .unset, .unset, .unset, .unset, .unset, .unset, .unset, .unset, .unset, .unset, .unset] [(.int ka)]) _
  refine Rch.st (fun _ k => XS.istore X0.here hx rfl (hb hby at_7) rfl (l' := #[.val (.int p0), .val (.int p1), .val (.int p2), .val (.int p3), .val (.int ka), .unset, .unset, .unset, .unset, .unset, .unset, .unset, .unset, .unset, .unset, .unset, .unset]) rfl k) ?_
  show Rch p e below s₁ (mkF m 9 #[.val (.int p0), .val (.int p1), .val (.int p2), .val (.int p3), .val (.int ka), .unset, .unset, .unset, .unset, .unset, .unset, .unset, .unset, .unset, .unset, .unset, .unset] []) _
  refine Rch.st (fun _ k => XS.iloadN X0.here hx rfl (hb hby at_9) rfl k) ?_
  show Rch p e below s₁ (mkF m 10 #[.val (.int p0), .val (.int p1), .val (.int p2), .val (.int p3), .val (.int ka), .unset, .unset, .unset, .unset, .unset, .unset, .unset, .unset, .unset, .unset, .unset, .unset] [(.int p0)]) _
  refine Rch.st (fun _ k => XS.bipush X0.here hx rfl (hb hby at_10)  k) ?_
  show Rch p e below s₁ (mkF m 12 #[.val (.int p0), .val (.int p1), .val (.int p2), .val (.int p3), .val (.int ka), .unset, .unset, .unset, .unset, .unset, .unset, .unset, .unset, .unset, .unset, .unset, .unset] [(.int (16 : Int32)), (.int p0)]) _
  refine Rch.st (fun _ k => XT.iushr X0.here hx rfl (hb hby at_12) rfl k) ?_
  show Rch p e below s₁ (mkF m 13 #[.val (.int p0), .val (.int p1), .val (.int p2), .val (.int p3), .val (.int ka), .unset, .unset, .unset, .unset, .unset, .unset, .unset, .unset, .unset, .unset, .unset, .unset] [(.int (XT.ushr p0 (16 : Int32)))]) _
  refine Rch.st (X0.ldcInt hx hown (mvT hZ (wq hw 0 rfl)) (g := (mkF m 13 #[.val (.int p0), .val (.int p1), .val (.int p2), .val (.int p3), .val (.int ka), .unset, .unset, .unset, .unset, .unset, .unset, .unset, .unset, .unset, .unset, .unset, .unset] [(.int (XT.ushr p0 (16 : Int32)))])) rfl (hb hby at_13)) ?_
  show Rch p e below s₁ (mkF m 15 #[.val (.int p0), .val (.int p1), .val (.int p2), .val (.int p3), .val (.int ka), .unset, .unset, .unset, .unset, .unset, .unset, .unset, .unset, .unset, .unset, .unset, .unset] [(.int (65535 : Int32)), (.int (XT.ushr p0 (16 : Int32)))]) _
  refine Rch.st (fun _ k => XS.iand X0.here hx rfl (hb hby at_15) rfl k) ?_
  show Rch p e below s₁ (mkF m 16 #[.val (.int p0), .val (.int p1), .val (.int p2), .val (.int p3), .val (.int ka), .unset, .unset, .unset, .unset, .unset, .unset, .unset, .unset, .unset, .unset, .unset, .unset] [(.int ((XT.ushr p0 (16 : Int32)) &&& (65535 : Int32)))]) _
  refine Rch.st (fun _ k => XS.bipush X0.here hx rfl (hb hby at_16)  k) ?_
  show Rch p e below s₁ (mkF m 18 #[.val (.int p0), .val (.int p1), .val (.int p2), .val (.int p3), .val (.int ka), .unset, .unset, .unset, .unset, .unset, .unset, .unset, .unset, .unset, .unset, .unset, .unset] [(.int (10 : Int32)), (.int ((XT.ushr p0 (16 : Int32)) &&& (65535 : Int32)))]) _
  refine Rch.st (fun _ k => iremM X0 hx rfl (hb hby at_18) rfl (by decide) k) ?_
  show Rch p e below s₁ (mkF m 19 #[.val (.int p0), .val (.int p1), .val (.int p2), .val (.int p3), .val (.int ka), .unset, .unset, .unset, .unset, .unset, .unset, .unset, .unset, .unset, .unset, .unset, .unset] [(.int (((XT.ushr p0 (16 : Int32)) &&& (65535 : Int32)) % (10 : Int32)))]) _
  generalize hkb : (((XT.ushr p0 (16 : Int32)) &&& (65535 : Int32)) % (10 : Int32)) = kb
  obtain ⟨ib, ekb⟩ : ∃ k : Fin 10, kb = Int32.ofNat k.val := hkb ▸ rem10 _
  show Rch p e below s₁ (mkF m 19 #[.val (.int p0), .val (.int p1), .val (.int p2), .val (.int p3), .val (.int ka), .unset, .unset, .unset, .unset, .unset, .unset, .unset, .unset, .unset, .unset, .unset, .unset] [(.int kb)]) _
  refine Rch.st (fun _ k => XS.istore X0.here hx rfl (hb hby at_19) rfl (l' := #[.val (.int p0), .val (.int p1), .val (.int p2), .val (.int p3), .val (.int ka), .val (.int kb), .unset, .unset, .unset, .unset, .unset, .unset, .unset, .unset, .unset, .unset, .unset]) rfl k) ?_
  show Rch p e below s₁ (mkF m 21 #[.val (.int p0), .val (.int p1), .val (.int p2), .val (.int p3), .val (.int ka), .val (.int kb), .unset, .unset, .unset, .unset, .unset, .unset, .unset, .unset, .unset, .unset, .unset] []) _
  refine Rch.st (fun _ k => XS.iloadN X0.here hx rfl (hb hby at_21) rfl k) ?_
  show Rch p e below s₁ (mkF m 22 #[.val (.int p0), .val (.int p1), .val (.int p2), .val (.int p3), .val (.int ka), .val (.int kb), .unset, .unset, .unset, .unset, .unset, .unset, .unset, .unset, .unset, .unset, .unset] [(.int p1)]) _
  refine Rch.st (fun _ k => XS.iconst X0.here hx rfl (hb hby at_22)  k) ?_
  show Rch p e below s₁ (mkF m 23 #[.val (.int p0), .val (.int p1), .val (.int p2), .val (.int p3), .val (.int ka), .val (.int kb), .unset, .unset, .unset, .unset, .unset, .unset, .unset, .unset, .unset, .unset, .unset] [(.int (3 : Int32)), (.int p1)]) _
  refine Rch.st (fun _ k => XS.iand X0.here hx rfl (hb hby at_23) rfl k) ?_
  show Rch p e below s₁ (mkF m 24 #[.val (.int p0), .val (.int p1), .val (.int p2), .val (.int p3), .val (.int ka), .val (.int kb), .unset, .unset, .unset, .unset, .unset, .unset, .unset, .unset, .unset, .unset, .unset] [(.int (p1 &&& (3 : Int32)))]) _
  refine Rch.st (fun _ k => XS.iconst X0.here hx rfl (hb hby at_24)  k) ?_
  show Rch p e below s₁ (mkF m 25 #[.val (.int p0), .val (.int p1), .val (.int p2), .val (.int p3), .val (.int ka), .val (.int kb), .unset, .unset, .unset, .unset, .unset, .unset, .unset, .unset, .unset, .unset, .unset] [(.int (3 : Int32)), (.int (p1 &&& (3 : Int32)))]) _
  refine Rch.st (fun _ k => iremM X0 hx rfl (hb hby at_25) rfl (by decide) k) ?_
  show Rch p e below s₁ (mkF m 26 #[.val (.int p0), .val (.int p1), .val (.int p2), .val (.int p3), .val (.int ka), .val (.int kb), .unset, .unset, .unset, .unset, .unset, .unset, .unset, .unset, .unset, .unset, .unset] [(.int ((p1 &&& (3 : Int32)) % (3 : Int32)))]) _
  generalize hla : ((p1 &&& (3 : Int32)) % (3 : Int32)) = la
  have rla : la = 0 ∨ la = 1 ∨ la = 2 := hla ▸ rem3 _
  show Rch p e below s₁ (mkF m 26 #[.val (.int p0), .val (.int p1), .val (.int p2), .val (.int p3), .val (.int ka), .val (.int kb), .unset, .unset, .unset, .unset, .unset, .unset, .unset, .unset, .unset, .unset, .unset] [(.int la)]) _
  refine Rch.st (fun _ k => XS.istore X0.here hx rfl (hb hby at_26) rfl (l' := #[.val (.int p0), .val (.int p1), .val (.int p2), .val (.int p3), .val (.int ka), .val (.int kb), .val (.int la), .unset, .unset, .unset, .unset, .unset, .unset, .unset, .unset, .unset, .unset]) rfl k) ?_
  show Rch p e below s₁ (mkF m 28 #[.val (.int p0), .val (.int p1), .val (.int p2), .val (.int p3), .val (.int ka), .val (.int kb), .val (.int la), .unset, .unset, .unset, .unset, .unset, .unset, .unset, .unset, .unset, .unset] []) _
  refine Rch.st (fun _ k => XS.iloadN X0.here hx rfl (hb hby at_28) rfl k) ?_
  show Rch p e below s₁ (mkF m 29 #[.val (.int p0), .val (.int p1), .val (.int p2), .val (.int p3), .val (.int ka), .val (.int kb), .val (.int la), .unset, .unset, .unset, .unset, .unset, .unset, .unset, .unset, .unset, .unset] [(.int p1)]) _
  refine Rch.st (fun _ k => XS.iconst X0.here hx rfl (hb hby at_29)  k) ?_
  show Rch p e below s₁ (mkF m 30 #[.val (.int p0), .val (.int p1), .val (.int p2), .val (.int p3), .val (.int ka), .val (.int kb), .val (.int la), .unset, .unset, .unset, .unset, .unset, .unset, .unset, .unset, .unset, .unset] [(.int (2 : Int32)), (.int p1)]) _
  refine Rch.st (fun _ k => XT.iushr X0.here hx rfl (hb hby at_30) rfl k) ?_
  show Rch p e below s₁ (mkF m 31 #[.val (.int p0), .val (.int p1), .val (.int p2), .val (.int p3), .val (.int ka), .val (.int kb), .val (.int la), .unset, .unset, .unset, .unset, .unset, .unset, .unset, .unset, .unset, .unset] [(.int (XT.ushr p1 (2 : Int32)))]) _
  refine Rch.st (fun _ k => XS.sipush X0.here hx rfl (hb hby at_31)  k) ?_
  show Rch p e below s₁ (mkF m 34 #[.val (.int p0), .val (.int p1), .val (.int p2), .val (.int p3), .val (.int ka), .val (.int kb), .val (.int la), .unset, .unset, .unset, .unset, .unset, .unset, .unset, .unset, .unset, .unset] [(.int (255 : Int32)), (.int (XT.ushr p1 (2 : Int32)))]) _
  refine Rch.st (fun _ k => XS.iand X0.here hx rfl (hb hby at_34) rfl k) ?_
  show Rch p e below s₁ (mkF m 35 #[.val (.int p0), .val (.int p1), .val (.int p2), .val (.int p3), .val (.int ka), .val (.int kb), .val (.int la), .unset, .unset, .unset, .unset, .unset, .unset, .unset, .unset, .unset, .unset] [(.int ((XT.ushr p1 (2 : Int32)) &&& (255 : Int32)))]) _
  refine Rch.st (fun _ k => XT.i2c X0.here hx rfl (hb hby at_35) rfl k) ?_
  show Rch p e below s₁ (mkF m 36 #[.val (.int p0), .val (.int p1), .val (.int p2), .val (.int p3), .val (.int ka), .val (.int kb), .val (.int la), .unset, .unset, .unset, .unset, .unset, .unset, .unset, .unset, .unset, .unset] [(.int (((XT.ushr p1 (2 : Int32)) &&& (255 : Int32)).toUInt32.toUInt16.toUInt32.toInt32))]) _
  generalize hc0 : (((XT.ushr p1 (2 : Int32)) &&& (255 : Int32)).toUInt32.toUInt16.toUInt32.toInt32) = c0
  have k0 : C8 c0 := hc0 ▸ c8_and _
  show Rch p e below s₁ (mkF m 36 #[.val (.int p0), .val (.int p1), .val (.int p2), .val (.int p3), .val (.int ka), .val (.int kb), .val (.int la), .unset, .unset, .unset, .unset, .unset, .unset, .unset, .unset, .unset, .unset] [(.int c0)]) _
  refine Rch.st (fun _ k => XS.istore X0.here hx rfl (hb hby at_36) rfl (l' := #[.val (.int p0), .val (.int p1), .val (.int p2), .val (.int p3), .val (.int ka), .val (.int kb), .val (.int la), .val (.int c0), .unset, .unset, .unset, .unset, .unset, .unset, .unset, .unset, .unset]) rfl k) ?_
  show Rch p e below s₁ (mkF m 38 #[.val (.int p0), .val (.int p1), .val (.int p2), .val (.int p3), .val (.int ka), .val (.int kb), .val (.int la), .val (.int c0), .unset, .unset, .unset, .unset, .unset, .unset, .unset, .unset, .unset] []) _
  refine Rch.st (fun _ k => XS.iloadN X0.here hx rfl (hb hby at_38) rfl k) ?_
  show Rch p e below s₁ (mkF m 39 #[.val (.int p0), .val (.int p1), .val (.int p2), .val (.int p3), .val (.int ka), .val (.int kb), .val (.int la), .val (.int c0), .unset, .unset, .unset, .unset, .unset, .unset, .unset, .unset, .unset] [(.int p1)]) _
  refine Rch.st (fun _ k => XS.bipush X0.here hx rfl (hb hby at_39)  k) ?_
  show Rch p e below s₁ (mkF m 41 #[.val (.int p0), .val (.int p1), .val (.int p2), .val (.int p3), .val (.int ka), .val (.int kb), .val (.int la), .val (.int c0), .unset, .unset, .unset, .unset, .unset, .unset, .unset, .unset, .unset] [(.int (10 : Int32)), (.int p1)]) _
  refine Rch.st (fun _ k => XT.iushr X0.here hx rfl (hb hby at_41) rfl k) ?_
  show Rch p e below s₁ (mkF m 42 #[.val (.int p0), .val (.int p1), .val (.int p2), .val (.int p3), .val (.int ka), .val (.int kb), .val (.int la), .val (.int c0), .unset, .unset, .unset, .unset, .unset, .unset, .unset, .unset, .unset] [(.int (XT.ushr p1 (10 : Int32)))]) _
  refine Rch.st (fun _ k => XS.sipush X0.here hx rfl (hb hby at_42)  k) ?_
  show Rch p e below s₁ (mkF m 45 #[.val (.int p0), .val (.int p1), .val (.int p2), .val (.int p3), .val (.int ka), .val (.int kb), .val (.int la), .val (.int c0), .unset, .unset, .unset, .unset, .unset, .unset, .unset, .unset, .unset] [(.int (255 : Int32)), (.int (XT.ushr p1 (10 : Int32)))]) _
  refine Rch.st (fun _ k => XS.iand X0.here hx rfl (hb hby at_45) rfl k) ?_
  show Rch p e below s₁ (mkF m 46 #[.val (.int p0), .val (.int p1), .val (.int p2), .val (.int p3), .val (.int ka), .val (.int kb), .val (.int la), .val (.int c0), .unset, .unset, .unset, .unset, .unset, .unset, .unset, .unset, .unset] [(.int ((XT.ushr p1 (10 : Int32)) &&& (255 : Int32)))]) _
  refine Rch.st (fun _ k => XT.i2c X0.here hx rfl (hb hby at_46) rfl k) ?_
  show Rch p e below s₁ (mkF m 47 #[.val (.int p0), .val (.int p1), .val (.int p2), .val (.int p3), .val (.int ka), .val (.int kb), .val (.int la), .val (.int c0), .unset, .unset, .unset, .unset, .unset, .unset, .unset, .unset, .unset] [(.int (((XT.ushr p1 (10 : Int32)) &&& (255 : Int32)).toUInt32.toUInt16.toUInt32.toInt32))]) _
  generalize hc1 : (((XT.ushr p1 (10 : Int32)) &&& (255 : Int32)).toUInt32.toUInt16.toUInt32.toInt32) = c1
  have k1 : C8 c1 := hc1 ▸ c8_and _
  show Rch p e below s₁ (mkF m 47 #[.val (.int p0), .val (.int p1), .val (.int p2), .val (.int p3), .val (.int ka), .val (.int kb), .val (.int la), .val (.int c0), .unset, .unset, .unset, .unset, .unset, .unset, .unset, .unset, .unset] [(.int c1)]) _
  refine Rch.st (fun _ k => XS.istore X0.here hx rfl (hb hby at_47) rfl (l' := #[.val (.int p0), .val (.int p1), .val (.int p2), .val (.int p3), .val (.int ka), .val (.int kb), .val (.int la), .val (.int c0), .val (.int c1), .unset, .unset, .unset, .unset, .unset, .unset, .unset, .unset]) rfl k) ?_
  show Rch p e below s₁ (mkF m 49 #[.val (.int p0), .val (.int p1), .val (.int p2), .val (.int p3), .val (.int ka), .val (.int kb), .val (.int la), .val (.int c0), .val (.int c1), .unset, .unset, .unset, .unset, .unset, .unset, .unset, .unset] []) _
  refine Rch.st (fun _ k => XS.iloadN X0.here hx rfl (hb hby at_49) rfl k) ?_
  show Rch p e below s₁ (mkF m 50 #[.val (.int p0), .val (.int p1), .val (.int p2), .val (.int p3), .val (.int ka), .val (.int kb), .val (.int la), .val (.int c0), .val (.int c1), .unset, .unset, .unset, .unset, .unset, .unset, .unset, .unset] [(.int p2)]) _
  refine Rch.st (fun _ k => XS.iconst X0.here hx rfl (hb hby at_50)  k) ?_
  show Rch p e below s₁ (mkF m 51 #[.val (.int p0), .val (.int p1), .val (.int p2), .val (.int p3), .val (.int ka), .val (.int kb), .val (.int la), .val (.int c0), .val (.int c1), .unset, .unset, .unset, .unset, .unset, .unset, .unset, .unset] [(.int (3 : Int32)), (.int p2)]) _
  refine Rch.st (fun _ k => XS.iand X0.here hx rfl (hb hby at_51) rfl k) ?_
  show Rch p e below s₁ (mkF m 52 #[.val (.int p0), .val (.int p1), .val (.int p2), .val (.int p3), .val (.int ka), .val (.int kb), .val (.int la), .val (.int c0), .val (.int c1), .unset, .unset, .unset, .unset, .unset, .unset, .unset, .unset] [(.int (p2 &&& (3 : Int32)))]) _
  refine Rch.st (fun _ k => XS.iconst X0.here hx rfl (hb hby at_52)  k) ?_
  show Rch p e below s₁ (mkF m 53 #[.val (.int p0), .val (.int p1), .val (.int p2), .val (.int p3), .val (.int ka), .val (.int kb), .val (.int la), .val (.int c0), .val (.int c1), .unset, .unset, .unset, .unset, .unset, .unset, .unset, .unset] [(.int (3 : Int32)), (.int (p2 &&& (3 : Int32)))]) _
  refine Rch.st (fun _ k => iremM X0 hx rfl (hb hby at_53) rfl (by decide) k) ?_
  show Rch p e below s₁ (mkF m 54 #[.val (.int p0), .val (.int p1), .val (.int p2), .val (.int p3), .val (.int ka), .val (.int kb), .val (.int la), .val (.int c0), .val (.int c1), .unset, .unset, .unset, .unset, .unset, .unset, .unset, .unset] [(.int ((p2 &&& (3 : Int32)) % (3 : Int32)))]) _
  generalize hlb : ((p2 &&& (3 : Int32)) % (3 : Int32)) = lb
  have rlb : lb = 0 ∨ lb = 1 ∨ lb = 2 := hlb ▸ rem3 _
  show Rch p e below s₁ (mkF m 54 #[.val (.int p0), .val (.int p1), .val (.int p2), .val (.int p3), .val (.int ka), .val (.int kb), .val (.int la), .val (.int c0), .val (.int c1), .unset, .unset, .unset, .unset, .unset, .unset, .unset, .unset] [(.int lb)]) _
  refine Rch.st (fun _ k => XS.istore X0.here hx rfl (hb hby at_54) rfl (l' := #[.val (.int p0), .val (.int p1), .val (.int p2), .val (.int p3), .val (.int ka), .val (.int kb), .val (.int la), .val (.int c0), .val (.int c1), .val (.int lb), .unset, .unset, .unset, .unset, .unset, .unset, .unset]) rfl k) ?_
  show Rch p e below s₁ (mkF m 56 #[.val (.int p0), .val (.int p1), .val (.int p2), .val (.int p3), .val (.int ka), .val (.int kb), .val (.int la), .val (.int c0), .val (.int c1), .val (.int lb), .unset, .unset, .unset, .unset, .unset, .unset, .unset] []) _
  refine Rch.st (fun _ k => XS.iloadN X0.here hx rfl (hb hby at_56) rfl k) ?_
  show Rch p e below s₁ (mkF m 57 #[.val (.int p0), .val (.int p1), .val (.int p2), .val (.int p3), .val (.int ka), .val (.int kb), .val (.int la), .val (.int c0), .val (.int c1), .val (.int lb), .unset, .unset, .unset, .unset, .unset, .unset, .unset] [(.int p2)]) _
  refine Rch.st (fun _ k => XS.iconst X0.here hx rfl (hb hby at_57)  k) ?_
  show Rch p e below s₁ (mkF m 58 #[.val (.int p0), .val (.int p1), .val (.int p2), .val (.int p3), .val (.int ka), .val (.int kb), .val (.int la), .val (.int c0), .val (.int c1), .val (.int lb), .unset, .unset, .unset, .unset, .unset, .unset, .unset] [(.int (2 : Int32)), (.int p2)]) _
  refine Rch.st (fun _ k => XT.iushr X0.here hx rfl (hb hby at_58) rfl k) ?_
  show Rch p e below s₁ (mkF m 59 #[.val (.int p0), .val (.int p1), .val (.int p2), .val (.int p3), .val (.int ka), .val (.int kb), .val (.int la), .val (.int c0), .val (.int c1), .val (.int lb), .unset, .unset, .unset, .unset, .unset, .unset, .unset] [(.int (XT.ushr p2 (2 : Int32)))]) _
  refine Rch.st (fun _ k => XS.iconst X0.here hx rfl (hb hby at_59)  k) ?_
  show Rch p e below s₁ (mkF m 60 #[.val (.int p0), .val (.int p1), .val (.int p2), .val (.int p3), .val (.int ka), .val (.int kb), .val (.int la), .val (.int c0), .val (.int c1), .val (.int lb), .unset, .unset, .unset, .unset, .unset, .unset, .unset] [(.int (1 : Int32)), (.int (XT.ushr p2 (2 : Int32)))]) _
  refine Rch.st (fun _ k => XS.iand X0.here hx rfl (hb hby at_60) rfl k) ?_
  show Rch p e below s₁ (mkF m 61 #[.val (.int p0), .val (.int p1), .val (.int p2), .val (.int p3), .val (.int ka), .val (.int kb), .val (.int la), .val (.int c0), .val (.int c1), .val (.int lb), .unset, .unset, .unset, .unset, .unset, .unset, .unset] [(.int ((XT.ushr p2 (2 : Int32)) &&& (1 : Int32)))]) _
  have tail104 : ∀ (d0 d1 : Int32), C8 d0 → C8 d1 → Rch p e below s₁ (mkF m 104 #[.val (.int p0), .val (.int p1), .val (.int p2), .val (.int p3), .val (.int ka), .val (.int kb), .val (.int la), .val (.int c0), .val (.int c1), .val (.int lb), .val (.int d0), .val (.int d1), .unset, .unset, .unset, .unset, .unset] []) (fun U o => ∃ v L, o = .returned v ∧ Q_law Z kw p0 p1 p2 p3 h0 n0 v U.heap L ∧ CHr Z EL s.vm s.heap U.vm U.heap ∧ ReturnedEndW s o U L 24 1152) := by
    intro d0 d1 m0 m1
    show Rch p e below s₁ (mkF m 104 #[.val (.int p0), .val (.int p1), .val (.int p2), .val (.int p3), .val (.int ka), .val (.int kb), .val (.int la), .val (.int c0), .val (.int c1), .val (.int lb), .val (.int d0), .val (.int d1), .unset, .unset, .unset, .unset, .unset] []) _
    refine Rch.st (fun _ k => XS.iload X0.here hx rfl (hb hby at_104) rfl k) ?_
    show Rch p e below s₁ (mkF m 106 #[.val (.int p0), .val (.int p1), .val (.int p2), .val (.int p3), .val (.int ka), .val (.int kb), .val (.int la), .val (.int c0), .val (.int c1), .val (.int lb), .val (.int d0), .val (.int d1), .unset, .unset, .unset, .unset, .unset] [(.int la)]) _
    refine Rch.st (fun _ k => XS.iload X0.here hx rfl (hb hby at_106) rfl k) ?_
    show Rch p e below s₁ (mkF m 108 #[.val (.int p0), .val (.int p1), .val (.int p2), .val (.int p3), .val (.int ka), .val (.int kb), .val (.int la), .val (.int c0), .val (.int c1), .val (.int lb), .val (.int d0), .val (.int d1), .unset, .unset, .unset, .unset, .unset] [(.int c0), (.int la)]) _
    refine Rch.st (fun _ k => XS.iload X0.here hx rfl (hb hby at_108) rfl k) ?_
    show Rch p e below s₁ (mkF m 110 #[.val (.int p0), .val (.int p1), .val (.int p2), .val (.int p3), .val (.int ka), .val (.int kb), .val (.int la), .val (.int c0), .val (.int c1), .val (.int lb), .val (.int d0), .val (.int d1), .unset, .unset, .unset, .unset, .unset] [(.int c1), (.int c0), (.int la)]) _
    obtain ⟨_, _, ⟨T100, L100, k100, n100⟩, -, X100_, hS100_, hg100_, ⟨Lc100, hQ100, l100, y100, z100, CR100⟩, st100⟩ := callSS X0 hx (y := (⟨"com/example/rhea/rhea/jq/TokenIsPinLaw", "str", "(ICC)Ljava/lang/String;"⟩ : MethodName)) hown (mvT hZ (wq hw 1 rfl)) (mvT hZ (wq hw 2 rfl)) (mvT hZ (wq hw 3 rfl)) (mvT hZ (wq hw 4 rfl)) (by decide) (backOfSH (W := 0) (rm_str l Z a0 hw [] la c0 c1 h0 n0 Z0 k0 k1 (B.2.2.2.2.2.2.2.2.2.2.2.2.2.2.2.2.2.2.2.2)) hZ (wq hw 4 rfl) (wq hw 3 rfl) (by decide) (by decide) hEL R0.1) (g := (mkF m 110 #[.val (.int p0), .val (.int p1), .val (.int p2), .val (.int p3), .val (.int ka), .val (.int kb), .val (.int la), .val (.int c0), .val (.int c1), .val (.int lb), .val (.int d0), .val (.int d1), .unset, .unset, .unset, .unset, .unset] [(.int c1), (.int c0), (.int la)])) rfl (by rw [hml]; rfl) (argsL := [(.int la), (.int c0), (.int c1)]) (rest := []) (lenOf pd_3 rfl) rfl (by show 2 * 0 + _ ≤ _; exact Nat.le_of_eq rfl) (hb hby at_110) (fun _ _ => ⟨rfl, e0, (by decide : 0 + 6 ≤ _), (by decide : 0 + 12 ≤ _)⟩)
    dsimp only [Pt.U, Pt.locs, Pt.cells, Pt.slots] at X100_ hS100_ hg100_ l100 y100 z100 st100 hQ100 CR100
    subst l100 y100 z100
    obtain ⟨X100, hS100, hZ100, hown100⟩ := rebS hS0 (by rw [e0]; exact (Nat.zero_le _)) X100_ hS100_ hg100_ hZ hown
    obtain ⟨a100, rfl, Nq100, E100, Q100⟩ := hQ100
    have N100 := Fr.app N0 Nq100
    have R100 := R0.trans CR100
    have Ex101 : Ext h0 T100.heap := E100
    refine Rch.go st100 ?_
    show Rch p e below T100 (mkF m 113 #[.val (.int p0), .val (.int p1), .val (.int p2), .val (.int p3), .val (.int ka), .val (.int kb), .val (.int la), .val (.int c0), .val (.int c1), .val (.int lb), .val (.int d0), .val (.int d1), .unset, .unset, .unset, .unset, .unset] [(.ref a100)]) _
    refine Rch.st (fun _ k => XS.astore X100.here hx rfl (hb hby at_113) rfl rfl (l' := #[.val (.int p0), .val (.int p1), .val (.int p2), .val (.int p3), .val (.int ka), .val (.int kb), .val (.int la), .val (.int c0), .val (.int c1), .val (.int lb), .val (.int d0), .val (.int d1), .val (.ref a100), .unset, .unset, .unset, .unset]) rfl k) ?_
    show Rch p e below T100 (mkF m 115 #[.val (.int p0), .val (.int p1), .val (.int p2), .val (.int p3), .val (.int ka), .val (.int kb), .val (.int la), .val (.int c0), .val (.int c1), .val (.int lb), .val (.int d0), .val (.int d1), .val (.ref a100), .unset, .unset, .unset, .unset] []) _
    refine Rch.st (fun _ k => XS.iload X100.here hx rfl (hb hby at_115) rfl k) ?_
    show Rch p e below T100 (mkF m 117 #[.val (.int p0), .val (.int p1), .val (.int p2), .val (.int p3), .val (.int ka), .val (.int kb), .val (.int la), .val (.int c0), .val (.int c1), .val (.int lb), .val (.int d0), .val (.int d1), .val (.ref a100), .unset, .unset, .unset, .unset] [(.int lb)]) _
    refine Rch.st (fun _ k => XS.iload X100.here hx rfl (hb hby at_117) rfl k) ?_
    show Rch p e below T100 (mkF m 119 #[.val (.int p0), .val (.int p1), .val (.int p2), .val (.int p3), .val (.int ka), .val (.int kb), .val (.int la), .val (.int c0), .val (.int c1), .val (.int lb), .val (.int d0), .val (.int d1), .val (.ref a100), .unset, .unset, .unset, .unset] [(.int d0), (.int lb)]) _
    refine Rch.st (fun _ k => XS.iload X100.here hx rfl (hb hby at_119) rfl k) ?_
    show Rch p e below T100 (mkF m 121 #[.val (.int p0), .val (.int p1), .val (.int p2), .val (.int p3), .val (.int ka), .val (.int kb), .val (.int la), .val (.int c0), .val (.int c1), .val (.int lb), .val (.int d0), .val (.int d1), .val (.ref a100), .unset, .unset, .unset, .unset] [(.int d1), (.int d0), (.int lb)]) _
    obtain ⟨_, _, ⟨T102, L102, k102, n102⟩, -, X102_, hS102_, hg102_, ⟨Lc102, hQ102, l102, y102, z102, CR102⟩, st102⟩ := callSS X100 hx (y := (⟨"com/example/rhea/rhea/jq/TokenIsPinLaw", "str", "(ICC)Ljava/lang/String;"⟩ : MethodName)) hown100 (mvT hZ100 (wq hw 1 rfl)) (mvT hZ100 (wq hw 2 rfl)) (mvT hZ100 (wq hw 3 rfl)) (mvT hZ100 (wq hw 4 rfl)) (by decide) (backOfSH (W := 0) (rm_str l Z a0 hw [] lb d0 d1 T100.heap n0 (Nat.le_trans Z0 Ex101.1) m0 m1 ((B.ext Ex101).2.2.2.2.2.2.2.2.2.2.2.2.2.2.2.2.2.2.2.2)) hZ100 (wq hw 4 rfl) (wq hw 3 rfl) (by decide) (by decide) hEL R100.1) (g := (mkF m 121 #[.val (.int p0), .val (.int p1), .val (.int p2), .val (.int p3), .val (.int ka), .val (.int kb), .val (.int la), .val (.int c0), .val (.int c1), .val (.int lb), .val (.int d0), .val (.int d1), .val (.ref a100), .unset, .unset, .unset, .unset] [(.int d1), (.int d0), (.int lb)])) rfl (by rw [hml]; rfl) (argsL := [(.int lb), (.int d0), (.int d1)]) (rest := []) (lenOf pd_3 rfl) rfl (by show 2 * 0 + _ ≤ _; exact Nat.le_of_eq rfl) (hb hby at_121) (fun _ _ => ⟨rfl, rfl, (by decide : 6 + 6 ≤ _), (by decide : 12 + 12 ≤ _)⟩)
    dsimp only [Pt.U, Pt.locs, Pt.cells, Pt.slots] at X102_ hS102_ hg102_ l102 y102 z102 st102 hQ102 CR102
    subst l102 y102 z102
    obtain ⟨X102, hS102, hZ102, hown102⟩ := rebS hS100 (Nat.le_refl _) X102_ hS102_ hg102_ hZ100 hown100
    obtain ⟨a102, rfl, Nq102, E102, Q102⟩ := hQ102
    have N102 := Fr.app N100 Nq102
    have R102 := R100.trans CR102
    have Ex103 : Ext h0 T102.heap := Ex101.tr E102
    have Ex104 : Ext T100.heap T102.heap := E102
    refine Rch.go st102 ?_
    show Rch p e below T102 (mkF m 124 #[.val (.int p0), .val (.int p1), .val (.int p2), .val (.int p3), .val (.int ka), .val (.int kb), .val (.int la), .val (.int c0), .val (.int c1), .val (.int lb), .val (.int d0), .val (.int d1), .val (.ref a100), .unset, .unset, .unset, .unset] [(.ref a102)]) _
    refine Rch.st (fun _ k => XS.astore X102.here hx rfl (hb hby at_124) rfl rfl (l' := #[.val (.int p0), .val (.int p1), .val (.int p2), .val (.int p3), .val (.int ka), .val (.int kb), .val (.int la), .val (.int c0), .val (.int c1), .val (.int lb), .val (.int d0), .val (.int d1), .val (.ref a100), .val (.ref a102), .unset, .unset, .unset]) rfl k) ?_
    show Rch p e below T102 (mkF m 126 #[.val (.int p0), .val (.int p1), .val (.int p2), .val (.int p3), .val (.int ka), .val (.int kb), .val (.int la), .val (.int c0), .val (.int c1), .val (.int lb), .val (.int d0), .val (.int d1), .val (.ref a100), .val (.ref a102), .unset, .unset, .unset] []) _
    obtain ⟨T105, h105, X105, e105, E105, A105, D105, -, st105⟩ := newO X102 hx hZ102 hown102 (wq hw 38 rfl) (wq hw 39 rfl) (wq hw 40 rfl) rfl (g := (mkF m 126 #[.val (.int p0), .val (.int p1), .val (.int p2), .val (.int p3), .val (.int ka), .val (.int kb), .val (.int la), .val (.int c0), .val (.int c1), .val (.int lb), .val (.int d0), .val (.int d1), .val (.ref a100), .val (.ref a102), .unset, .unset, .unset] [])) rfl (hb hby at_126) (by decide) (by decide)
    obtain ⟨a105, g105⟩ : ∃ z, z = T102.heap.size := ⟨_, rfl⟩
    rw [← g105] at A105 D105 st105
    have Ex106 : Ext h0 h105 := Ex103.tr E105
    have Ex107 : Ext T100.heap h105 := Ex104.tr E105
    have Ex108 : Ext T102.heap h105 := E105
    have le109 : h0.size ≤ a105 := Nat.le_trans Ex103.1 (Nat.le_of_eq g105.symm)
    have le110 : T100.heap.size ≤ a105 := Nat.le_trans Ex104.1 (Nat.le_of_eq g105.symm)
    have le111 : T102.heap.size ≤ a105 := Nat.le_of_eq g105.symm
    refine Rch.st st105 ?_
    show Rch p e below T105 (mkF m 129 #[.val (.int p0), .val (.int p1), .val (.int p2), .val (.int p3), .val (.int ka), .val (.int kb), .val (.int la), .val (.int c0), .val (.int c1), .val (.int lb), .val (.int d0), .val (.int d1), .val (.ref a100), .val (.ref a102), .unset, .unset, .unset] [(.ref a105)]) _
    refine Rch.st (fun _ k => XS.dup X105.here hx rfl (hb hby at_129) rfl rfl k) ?_
    show Rch p e below T105 (mkF m 130 #[.val (.int p0), .val (.int p1), .val (.int p2), .val (.int p3), .val (.int ka), .val (.int kb), .val (.int la), .val (.int c0), .val (.int c1), .val (.int lb), .val (.int d0), .val (.int d1), .val (.ref a100), .val (.ref a102), .unset, .unset, .unset] [(.ref a105), (.ref a105)]) _
    refine Rch.st (fun _ k => XS.iload X105.here hx rfl (hb hby at_130) rfl k) ?_
    show Rch p e below T105 (mkF m 132 #[.val (.int p0), .val (.int p1), .val (.int p2), .val (.int p3), .val (.int ka), .val (.int kb), .val (.int la), .val (.int c0), .val (.int c1), .val (.int lb), .val (.int d0), .val (.int d1), .val (.ref a100), .val (.ref a102), .unset, .unset, .unset] [(.int ka), (.ref a105), (.ref a105)]) _
    obtain ⟨_, _, ⟨T112, L112, k112, n112⟩, -, X112, ⟨Lc112, hQ112, l112, y112, z112⟩, st112⟩ := Jvm.LawKit.callS X105 hx (y := (⟨"com/example/rhea/rhea/jq/TokenIsPinLaw", "kind", "(I)Lcom/example/rhea/rhea/jq/Token$Kind;"⟩ : MethodName)) hown102 (mvT hZ102 (wq hw 41 rfl)) (mvT hZ102 (wq hw 42 rfl)) (mvT hZ102 (wq hw 3 rfl)) (mvT hZ102 (wq hw 43 rfl)) (by decide) (backOf (W := 2) (rm_kind l Z a0 hw [] kw ka h105 n0 (Nat.le_trans Z0 Ex106.1) (B.ext Ex106)) hZ102 (wq hw 43 rfl) (wq hw 3 rfl) (by decide) (by decide)) (g := (mkF m 132 #[.val (.int p0), .val (.int p1), .val (.int p2), .val (.int p3), .val (.int ka), .val (.int kb), .val (.int la), .val (.int c0), .val (.int c1), .val (.int lb), .val (.int d0), .val (.int d1), .val (.ref a100), .val (.ref a102), .unset, .unset, .unset] [(.int ka), (.ref a105), (.ref a105)])) rfl (by rw [hml]; rfl) (argsL := [(.int ka)]) (rest := [(.ref a105), (.ref a105)]) (lenOf pd_4 rfl) rfl (by show 2 * 0 + _ ≤ _; exact Nat.le_of_eq rfl) (hb hby at_132) (fun _ _ => ⟨rfl, e105, (by decide : 13 + 0 ≤ _), (by decide : 28 + 0 ≤ _)⟩)
    dsimp only [Pt.U, Pt.locs, Pt.cells, Pt.slots] at X112 l112 y112 z112 st112 hQ112
    subst l112 y112 z112
    obtain ⟨rfl, Nq112, e112⟩ := hQ112
    have N112 := Fr.app N102 Nq112
    refine Rch.st st112 ?_
    show Rch p e below T112 (mkF m 135 #[.val (.int p0), .val (.int p1), .val (.int p2), .val (.int p3), .val (.int ka), .val (.int kb), .val (.int la), .val (.int c0), .val (.int c1), .val (.int lb), .val (.int d0), .val (.int d1), .val (.ref a100), .val (.ref a102), .unset, .unset, .unset] [(.ref (kw (kidx ka))), (.ref a105), (.ref a105)]) _
    refine Rch.st (fun _ k => XS.aload X112.here hx rfl (hb hby at_135) rfl rfl k) ?_
    show Rch p e below T112 (mkF m 137 #[.val (.int p0), .val (.int p1), .val (.int p2), .val (.int p3), .val (.int ka), .val (.int kb), .val (.int la), .val (.int c0), .val (.int c1), .val (.int lb), .val (.int d0), .val (.int d1), .val (.ref a100), .val (.ref a102), .unset, .unset, .unset] [(.ref a100), (.ref (kw (kidx ka))), (.ref a105), (.ref a105)]) _
    refine Rch.st (fun _ k => XS.iloadN X112.here hx rfl (hb hby at_137) rfl k) ?_
    show Rch p e below T112 (mkF m 138 #[.val (.int p0), .val (.int p1), .val (.int p2), .val (.int p3), .val (.int ka), .val (.int kb), .val (.int la), .val (.int c0), .val (.int c1), .val (.int lb), .val (.int d0), .val (.int d1), .val (.ref a100), .val (.ref a102), .unset, .unset, .unset] [(.int p3), (.ref a100), (.ref (kw (kidx ka))), (.ref a105), (.ref a105)]) _
    refine Rch.st (fun _ k => XS.aconstNull X112.here hx rfl (hb hby at_138)  k) ?_
    show Rch p e below T112 (mkF m 139 #[.val (.int p0), .val (.int p1), .val (.int p2), .val (.int p3), .val (.int ka), .val (.int kb), .val (.int la), .val (.int c0), .val (.int c1), .val (.int lb), .val (.int d0), .val (.int d1), .val (.ref a100), .val (.ref a102), .unset, .unset, .unset] [.null, (.int p3), (.ref a100), (.ref (kw (kidx ka))), (.ref a105), (.ref a105)]) _
    obtain ⟨_, _, ⟨T113, L113, k113, n113⟩, -, X113, ⟨Lc113, hQ113, l113, y113, z113⟩, st113⟩ := X112.specialBack hx (y := (⟨"com/example/rhea/rhea/jq/Token", "<init>", "(Lcom/example/rhea/rhea/jq/Token$Kind;Ljava/lang/String;ILjava/util/List;)V"⟩ : MethodName)) rfl hown102 (mvT hZ102 (wq hw 47 rfl)) (mvT hZ102 (wq hw 48 rfl)) (mvT hZ102 (wq hw 49 rfl)) (by decide) (backOf (W := 1) (rm_tok l Z a0 hw [] a105 (kw (kidx ka)) a100 p3 h105 n0 (Nat.le_trans Z0 Ex106.1) (Nat.le_trans Z0 le109) A105 ((D105 (Or.inr (wq hw 52 rfl)) (ty := (.object "com/example/rhea/rhea/jq/Token$Kind")) (by decide)).ext Ext.rf) ((D105 (Or.inr (wq hw 54 rfl)) (ty := (.object "java/lang/String")) (by decide)).ext Ext.rf) ((D105 (Or.inr (wq hw 56 rfl)) (ty := .int) (by decide)).ext Ext.rf) ((D105 (Or.inr (wq hw 58 rfl)) (ty := (.object "java/util/List")) (by decide)).ext Ext.rf)) hZ102 (wq hw 49 rfl) (wq hw 40 rfl) (by decide) (by decide)) (g := (mkF m 139 #[.val (.int p0), .val (.int p1), .val (.int p2), .val (.int p3), .val (.int ka), .val (.int kb), .val (.int la), .val (.int c0), .val (.int c1), .val (.int lb), .val (.int d0), .val (.int d1), .val (.ref a100), .val (.ref a102), .unset, .unset, .unset] [.null, (.int p3), (.ref a100), (.ref (kw (kidx ka))), (.ref a105), (.ref a105)])) rfl (by rw [hml]; rfl) (Steps.refl _) (a := a105) (argsL := [(.ref (kw (kidx ka))), (.ref a100), (.int p3), .null]) (rest := [(.ref a105)]) (lenOf pd_5 rfl) rfl (by show 2 * 0 + _ ≤ _; exact Nat.le_of_eq rfl) (hb hby at_139) (fun _ _ => ⟨rfl, e112, (by decide : 13 + 0 ≤ _), (by decide : 28 + 0 ≤ _)⟩)
    dsimp only [Pt.U, Pt.locs, Pt.cells, Pt.slots] at X113 l113 y113 z113 st113 hQ113
    subst l113 y113 z113
    obtain ⟨rfl, Nq113, K113, EA113, FK113, FT113⟩ := hQ113
    have N113 := Fr.app N112 Nq113
    have Ex114 : Ext h0 T113.heap := extKeep1 Ex106 K113 le109
    have Ex115 : Ext T100.heap T113.heap := extKeep1 Ex107 K113 le110
    have Ex116 : Ext T102.heap T113.heap := extKeep1 Ex108 K113 le111
    refine Rch.go st113 ?_
    show Rch p e below T113 (mkF m 142 #[.val (.int p0), .val (.int p1), .val (.int p2), .val (.int p3), .val (.int ka), .val (.int kb), .val (.int la), .val (.int c0), .val (.int c1), .val (.int lb), .val (.int d0), .val (.int d1), .val (.ref a100), .val (.ref a102), .unset, .unset, .unset] [(.ref a105)]) _
    refine Rch.st (fun _ k => XS.astore X113.here hx rfl (hb hby at_142) rfl rfl (l' := #[.val (.int p0), .val (.int p1), .val (.int p2), .val (.int p3), .val (.int ka), .val (.int kb), .val (.int la), .val (.int c0), .val (.int c1), .val (.int lb), .val (.int d0), .val (.int d1), .val (.ref a100), .val (.ref a102), .val (.ref a105), .unset, .unset]) rfl k) ?_
    show Rch p e below T113 (mkF m 144 #[.val (.int p0), .val (.int p1), .val (.int p2), .val (.int p3), .val (.int ka), .val (.int kb), .val (.int la), .val (.int c0), .val (.int c1), .val (.int lb), .val (.int d0), .val (.int d1), .val (.ref a100), .val (.ref a102), .val (.ref a105), .unset, .unset] []) _
    refine Rch.st (fun _ k => XS.iload X113.here hx rfl (hb hby at_144) rfl k) ?_
    show Rch p e below T113 (mkF m 146 #[.val (.int p0), .val (.int p1), .val (.int p2), .val (.int p3), .val (.int ka), .val (.int kb), .val (.int la), .val (.int c0), .val (.int c1), .val (.int lb), .val (.int d0), .val (.int d1), .val (.ref a100), .val (.ref a102), .val (.ref a105), .unset, .unset] [(.int la)]) _
    refine Rch.st (fun _ k => XS.iload X113.here hx rfl (hb hby at_146) rfl k) ?_
    show Rch p e below T113 (mkF m 148 #[.val (.int p0), .val (.int p1), .val (.int p2), .val (.int p3), .val (.int ka), .val (.int kb), .val (.int la), .val (.int c0), .val (.int c1), .val (.int lb), .val (.int d0), .val (.int d1), .val (.ref a100), .val (.ref a102), .val (.ref a105), .unset, .unset] [(.int lb), (.int la)]) _
    have tail203 : ∀ (sm ex : Int32), ((ex = 1 ∧ ka = kb ∧ strL la c0 c1 = strL lb d0 d1) ∨ (ex = 0 ∧ ¬ (ka = kb ∧ strL la c0 c1 = strL lb d0 d1))) → Rch p e below T113 (mkF m 203 #[.val (.int p0), .val (.int p1), .val (.int p2), .val (.int p3), .val (.int ka), .val (.int kb), .val (.int la), .val (.int c0), .val (.int c1), .val (.int lb), .val (.int d0), .val (.int d1), .val (.ref a100), .val (.ref a102), .val (.ref a105), .val (.int sm), .val (.int ex)] []) (fun U o => ∃ v L, o = .returned v ∧ Q_law Z kw p0 p1 p2 p3 h0 n0 v U.heap L ∧ CHr Z EL s.vm s.heap U.vm U.heap ∧ ReturnedEndW s o U L 24 1152) := by
      intro sm ex hex
      show Rch p e below T113 (mkF m 203 #[.val (.int p0), .val (.int p1), .val (.int p2), .val (.int p3), .val (.int ka), .val (.int kb), .val (.int la), .val (.int c0), .val (.int c1), .val (.int lb), .val (.int d0), .val (.int d1), .val (.ref a100), .val (.ref a102), .val (.ref a105), .val (.int sm), .val (.int ex)] []) _
      refine Rch.st (fun _ k => XS.aload X113.here hx rfl (hb hby at_203) rfl rfl k) ?_
      show Rch p e below T113 (mkF m 205 #[.val (.int p0), .val (.int p1), .val (.int p2), .val (.int p3), .val (.int ka), .val (.int kb), .val (.int la), .val (.int c0), .val (.int c1), .val (.int lb), .val (.int d0), .val (.int d1), .val (.ref a100), .val (.ref a102), .val (.ref a105), .val (.int sm), .val (.int ex)] [(.ref a105)]) _
      refine Rch.st (fun _ k => XS.iload X113.here hx rfl (hb hby at_205) rfl k) ?_
      show Rch p e below T113 (mkF m 207 #[.val (.int p0), .val (.int p1), .val (.int p2), .val (.int p3), .val (.int ka), .val (.int kb), .val (.int la), .val (.int c0), .val (.int c1), .val (.int lb), .val (.int d0), .val (.int d1), .val (.ref a100), .val (.ref a102), .val (.ref a105), .val (.int sm), .val (.int ex)] [(.int kb), (.ref a105)]) _
      obtain ⟨_, _, ⟨T117, L117, k117, n117⟩, -, X117, ⟨Lc117, hQ117, l117, y117, z117⟩, st117⟩ := Jvm.LawKit.callS X113 hx (y := (⟨"com/example/rhea/rhea/jq/TokenIsPinLaw", "kind", "(I)Lcom/example/rhea/rhea/jq/Token$Kind;"⟩ : MethodName)) hown102 (mvT hZ102 (wq hw 41 rfl)) (mvT hZ102 (wq hw 42 rfl)) (mvT hZ102 (wq hw 3 rfl)) (mvT hZ102 (wq hw 43 rfl)) (by decide) (backOf (W := 1) (rm_kind l Z a0 hw [] kw kb T113.heap n0 (Nat.le_trans Z0 Ex114.1) (B.ext Ex114)) hZ102 (wq hw 43 rfl) (wq hw 3 rfl) (by decide) (by decide)) (g := (mkF m 207 #[.val (.int p0), .val (.int p1), .val (.int p2), .val (.int p3), .val (.int ka), .val (.int kb), .val (.int la), .val (.int c0), .val (.int c1), .val (.int lb), .val (.int d0), .val (.int d1), .val (.ref a100), .val (.ref a102), .val (.ref a105), .val (.int sm), .val (.int ex)] [(.int kb), (.ref a105)])) rfl (by rw [hml]; rfl) (argsL := [(.int kb)]) (rest := [(.ref a105)]) (lenOf pd_4 rfl) rfl (by show 2 * 0 + _ ≤ _; exact Nat.le_of_eq rfl) (hb hby at_207) (fun _ _ => ⟨rfl, rfl, (by decide : 13 + 0 ≤ _), (by decide : 28 + 0 ≤ _)⟩)
      dsimp only [Pt.U, Pt.locs, Pt.cells, Pt.slots] at X117 l117 y117 z117 st117 hQ117
      subst l117 y117 z117
      obtain ⟨rfl, Nq117, e117⟩ := hQ117
      have N117 := Fr.app N113 Nq117
      refine Rch.st st117 ?_
      show Rch p e below T117 (mkF m 210 #[.val (.int p0), .val (.int p1), .val (.int p2), .val (.int p3), .val (.int ka), .val (.int kb), .val (.int la), .val (.int c0), .val (.int c1), .val (.int lb), .val (.int d0), .val (.int d1), .val (.ref a100), .val (.ref a102), .val (.ref a105), .val (.int sm), .val (.int ex)] [(.ref (kw (kidx kb))), (.ref a105)]) _
      refine Rch.st (fun _ k => XS.aload X117.here hx rfl (hb hby at_210) rfl rfl k) ?_
      show Rch p e below T117 (mkF m 212 #[.val (.int p0), .val (.int p1), .val (.int p2), .val (.int p3), .val (.int ka), .val (.int kb), .val (.int la), .val (.int c0), .val (.int c1), .val (.int lb), .val (.int d0), .val (.int d1), .val (.ref a100), .val (.ref a102), .val (.ref a105), .val (.int sm), .val (.int ex)] [(.ref a102), (.ref (kw (kidx kb))), (.ref a105)]) _
      obtain ⟨cq118, kq118, q118a, q118b, q118c⟩ := isOf hZ102 e117 EA113
      obtain ⟨_, _, ⟨T118, L118, k118, n118⟩, -, X118, ⟨Lc118, hQ118, l118, y118, z118⟩, st118⟩ := X117.virtualBack hx (y := (⟨"com/example/rhea/rhea/jq/Token", "is", "(Lcom/example/rhea/rhea/jq/Token$Kind;Ljava/lang/String;)Z"⟩ : MethodName)) (z := (⟨"com/example/rhea/rhea/jq/Token", "is", "(Lcom/example/rhea/rhea/jq/Token$Kind;Ljava/lang/String;)Z"⟩ : MethodName)) hown102 (mvT hZ102 (wq hw 59 rfl)) (mvT hZ102 (wq hw 60 rfl)) (notFace_of_selects (args := #[]) (mvT hZ102 (wq hw 62 rfl))) (mvT hZ102 (wq hw 62 rfl)) (mvT hZ102 (wq hw 61 rfl)) (by decide) (backOf (W := 0) (rm_is l Z a0 hw [] a105 (kw (kidx ka)) a100 (kw (kidx kb)) a102 _ _ T113.heap n0 (Nat.le_trans Z0 Ex114.1) FK113 FT113 (Q100.ext Ex115) (Q102.ext Ex116) (strL_len _ _ _) (strL_len _ _ _) ((B.ext Ex114).2.2.2.2.2.2.2.2.2.2.2.2.2.2.2.2.2.2.2.2)) hZ102 (wq hw 63 rfl) (wq hw 40 rfl) (by decide) (by decide)) q118a q118c (g := (mkF m 212 #[.val (.int p0), .val (.int p1), .val (.int p2), .val (.int p3), .val (.int ka), .val (.int kb), .val (.int la), .val (.int c0), .val (.int c1), .val (.int lb), .val (.int d0), .val (.int d1), .val (.ref a100), .val (.ref a102), .val (.ref a105), .val (.int sm), .val (.int ex)] [(.ref a102), (.ref (kw (kidx kb))), (.ref a105)])) rfl (by rw [hml]; rfl) (Steps.refl _) (argsL := [(.ref (kw (kidx kb))), (.ref a102)]) (rest := []) (lenOf pd_6 rfl) rfl (by show 2 * 0 + _ ≤ _; exact Nat.le_of_eq rfl) (hb hby at_212) (fun _ _ => ⟨rfl, e117, (by decide : 13 + 0 ≤ _), (by decide : 28 + 0 ≤ _)⟩)
      dsimp only [Pt.U, Pt.locs, Pt.cells, Pt.slots] at X118 l118 y118 z118 st118 hQ118
      subst l118 y118 z118
      obtain ⟨r118, rfl, Nq118, e118, u118, v118⟩ := hQ118
      have N118 := Fr.app N117 Nq118
      refine Rch.go st118 ?_
      show Rch p e below T118 (mkF m 215 #[.val (.int p0), .val (.int p1), .val (.int p2), .val (.int p3), .val (.int ka), .val (.int kb), .val (.int la), .val (.int c0), .val (.int c1), .val (.int lb), .val (.int d0), .val (.int d1), .val (.ref a100), .val (.ref a102), .val (.ref a105), .val (.int sm), .val (.int ex)] [(.int r118)]) _
      have ek : kw (kidx ka) = kw (kidx kb) → ka = kb := fun q => by
        rw [eka, ekb, kidx_fin, kidx_fin] at q; rw [eka, ekb, B.inj ia ib q]
      obtain ⟨rfl, q1, q2⟩ | ⟨rfl, q1⟩ := hex
      · skip
        obtain rfl : r118 = 1 := u118 (by rw [q1]) q2
        show Rch p e below T118 (mkF m 215 #[.val (.int p0), .val (.int p1), .val (.int p2), .val (.int p3), .val (.int ka), .val (.int kb), .val (.int la), .val (.int c0), .val (.int c1), .val (.int lb), .val (.int d0), .val (.int d1), .val (.ref a100), .val (.ref a102), .val (.ref a105), .val (.int sm), .val (.int (1 : Int32))] [(.int (1 : Int32))]) _
        refine Rch.st (fun _ k => XS.iload X118.here hx rfl (hb hby at_215) rfl k) ?_
        show Rch p e below T118 (mkF m 217 #[.val (.int p0), .val (.int p1), .val (.int p2), .val (.int p3), .val (.int ka), .val (.int kb), .val (.int la), .val (.int c0), .val (.int c1), .val (.int lb), .val (.int d0), .val (.int d1), .val (.ref a100), .val (.ref a102), .val (.ref a105), .val (.int sm), .val (.int (1 : Int32))] [(.int (1 : Int32)), (.int (1 : Int32))]) _
        refine Rch.st (fun _ k => XS.icmpNo X118.here hx rfl (hb hby at_217) rfl (by decide : if_icmp.holds .ne (1 : Int32) (1 : Int32) = false) k) ?_
        show Rch p e below T118 (mkF m 220 #[.val (.int p0), .val (.int p1), .val (.int p2), .val (.int p3), .val (.int ka), .val (.int kb), .val (.int la), .val (.int c0), .val (.int c1), .val (.int lb), .val (.int d0), .val (.int d1), .val (.ref a100), .val (.ref a102), .val (.ref a105), .val (.int sm), .val (.int (1 : Int32))] []) _
        refine Rch.st (fun _ k => XS.iconst X118.here hx rfl (hb hby at_220)  k) ?_
        show Rch p e below T118 (mkF m 221 #[.val (.int p0), .val (.int p1), .val (.int p2), .val (.int p3), .val (.int ka), .val (.int kb), .val (.int la), .val (.int c0), .val (.int c1), .val (.int lb), .val (.int d0), .val (.int d1), .val (.ref a100), .val (.ref a102), .val (.ref a105), .val (.int sm), .val (.int (1 : Int32))] [(.int (1 : Int32))]) _
        refine Rch.st (fun _ k => XS.goto X118.here hx rfl (pc0 := 221) (pc' := 225) rfl (hb hby at_221) (by decide) (by decide) k) ?_
        show Rch p e below T118 (mkF m 225 #[.val (.int p0), .val (.int p1), .val (.int p2), .val (.int p3), .val (.int ka), .val (.int kb), .val (.int la), .val (.int c0), .val (.int c1), .val (.int lb), .val (.int d0), .val (.int d1), .val (.ref a100), .val (.ref a102), .val (.ref a105), .val (.int sm), .val (.int (1 : Int32))] [(.int (1 : Int32))]) _
        have R119 := R102.trans (CHr.ext Ex116 R102.1)
        have hk120 := Nat.le_trans (Nat.le_refl _) Ex116.1
        exact Rch.finW (Q := Q_law Z kw p0 p1 p2 p3 h0 n0) X118 hZ102 hEL hS102 (by rw [e118]; exact hk120) e118 R119 (v := some (.int (1 : Int32))) (fun h => by rw [Bd.returns] at h; cases h) (BodyLoose.notSynchronized Bd) (fun fs hr => retN X118 hx (t := .boolean) Bd.returns (by simp) (hb hby at_225) hr) (by rw [e118]; exact ⟨rfl, N118⟩) (by decide) (by decide)
      · skip
        obtain rfl : r118 = 0 := v118 (fun z => q1 ⟨ek z.1, z.2⟩)
        show Rch p e below T118 (mkF m 215 #[.val (.int p0), .val (.int p1), .val (.int p2), .val (.int p3), .val (.int ka), .val (.int kb), .val (.int la), .val (.int c0), .val (.int c1), .val (.int lb), .val (.int d0), .val (.int d1), .val (.ref a100), .val (.ref a102), .val (.ref a105), .val (.int sm), .val (.int (0 : Int32))] [(.int (0 : Int32))]) _
        refine Rch.st (fun _ k => XS.iload X118.here hx rfl (hb hby at_215) rfl k) ?_
        show Rch p e below T118 (mkF m 217 #[.val (.int p0), .val (.int p1), .val (.int p2), .val (.int p3), .val (.int ka), .val (.int kb), .val (.int la), .val (.int c0), .val (.int c1), .val (.int lb), .val (.int d0), .val (.int d1), .val (.ref a100), .val (.ref a102), .val (.ref a105), .val (.int sm), .val (.int (0 : Int32))] [(.int (0 : Int32)), (.int (0 : Int32))]) _
        refine Rch.st (fun _ k => XS.icmpNo X118.here hx rfl (hb hby at_217) rfl (by decide : if_icmp.holds .ne (0 : Int32) (0 : Int32) = false) k) ?_
        show Rch p e below T118 (mkF m 220 #[.val (.int p0), .val (.int p1), .val (.int p2), .val (.int p3), .val (.int ka), .val (.int kb), .val (.int la), .val (.int c0), .val (.int c1), .val (.int lb), .val (.int d0), .val (.int d1), .val (.ref a100), .val (.ref a102), .val (.ref a105), .val (.int sm), .val (.int (0 : Int32))] []) _
        refine Rch.st (fun _ k => XS.iconst X118.here hx rfl (hb hby at_220)  k) ?_
        show Rch p e below T118 (mkF m 221 #[.val (.int p0), .val (.int p1), .val (.int p2), .val (.int p3), .val (.int ka), .val (.int kb), .val (.int la), .val (.int c0), .val (.int c1), .val (.int lb), .val (.int d0), .val (.int d1), .val (.ref a100), .val (.ref a102), .val (.ref a105), .val (.int sm), .val (.int (0 : Int32))] [(.int (1 : Int32))]) _
        refine Rch.st (fun _ k => XS.goto X118.here hx rfl (pc0 := 221) (pc' := 225) rfl (hb hby at_221) (by decide) (by decide) k) ?_
        show Rch p e below T118 (mkF m 225 #[.val (.int p0), .val (.int p1), .val (.int p2), .val (.int p3), .val (.int ka), .val (.int kb), .val (.int la), .val (.int c0), .val (.int c1), .val (.int lb), .val (.int d0), .val (.int d1), .val (.ref a100), .val (.ref a102), .val (.ref a105), .val (.int sm), .val (.int (0 : Int32))] [(.int (1 : Int32))]) _
        have R121 := R102.trans (CHr.ext Ex116 R102.1)
        have hk122 := Nat.le_trans (Nat.le_refl _) Ex116.1
        exact Rch.finW (Q := Q_law Z kw p0 p1 p2 p3 h0 n0) X118 hZ102 hEL hS102 (by rw [e118]; exact hk122) e118 R121 (v := some (.int (1 : Int32))) (fun h => by rw [Bd.returns] at h; cases h) (BodyLoose.notSynchronized Bd) (fun fs hr => retN X118 hx (t := .boolean) Bd.returns (by simp) (hb hby at_225) hr) (by rw [e118]; exact ⟨rfl, N118⟩) (by decide) (by decide)
    have tail182 : ∀ (sm : Int32), ((sm = 1 ∧ strL la c0 c1 = strL lb d0 d1) ∨ (sm = 0 ∧ ¬ strL la c0 c1 = strL lb d0 d1)) → Rch p e below T113 (mkF m 182 #[.val (.int p0), .val (.int p1), .val (.int p2), .val (.int p3), .val (.int ka), .val (.int kb), .val (.int la), .val (.int c0), .val (.int c1), .val (.int lb), .val (.int d0), .val (.int d1), .val (.ref a100), .val (.ref a102), .val (.ref a105), .unset, .unset] [(.int sm)]) (fun U o => ∃ v L, o = .returned v ∧ Q_law Z kw p0 p1 p2 p3 h0 n0 v U.heap L ∧ CHr Z EL s.vm s.heap U.vm U.heap ∧ ReturnedEndW s o U L 24 1152) := by
      intro sm hsm
      show Rch p e below T113 (mkF m 182 #[.val (.int p0), .val (.int p1), .val (.int p2), .val (.int p3), .val (.int ka), .val (.int kb), .val (.int la), .val (.int c0), .val (.int c1), .val (.int lb), .val (.int d0), .val (.int d1), .val (.ref a100), .val (.ref a102), .val (.ref a105), .unset, .unset] [(.int sm)]) _
      refine Rch.st (fun _ k => XS.istore X113.here hx rfl (hb hby at_182) rfl (l' := #[.val (.int p0), .val (.int p1), .val (.int p2), .val (.int p3), .val (.int ka), .val (.int kb), .val (.int la), .val (.int c0), .val (.int c1), .val (.int lb), .val (.int d0), .val (.int d1), .val (.ref a100), .val (.ref a102), .val (.ref a105), .val (.int sm), .unset]) rfl k) ?_
      show Rch p e below T113 (mkF m 184 #[.val (.int p0), .val (.int p1), .val (.int p2), .val (.int p3), .val (.int ka), .val (.int kb), .val (.int la), .val (.int c0), .val (.int c1), .val (.int lb), .val (.int d0), .val (.int d1), .val (.ref a100), .val (.ref a102), .val (.ref a105), .val (.int sm), .unset] []) _
      refine Rch.st (fun _ k => XS.iload X113.here hx rfl (hb hby at_184) rfl k) ?_
      show Rch p e below T113 (mkF m 186 #[.val (.int p0), .val (.int p1), .val (.int p2), .val (.int p3), .val (.int ka), .val (.int kb), .val (.int la), .val (.int c0), .val (.int c1), .val (.int lb), .val (.int d0), .val (.int d1), .val (.ref a100), .val (.ref a102), .val (.ref a105), .val (.int sm), .unset] [(.int ka)]) _
      refine Rch.st (fun _ k => XS.iload X113.here hx rfl (hb hby at_186) rfl k) ?_
      show Rch p e below T113 (mkF m 188 #[.val (.int p0), .val (.int p1), .val (.int p2), .val (.int p3), .val (.int ka), .val (.int kb), .val (.int la), .val (.int c0), .val (.int c1), .val (.int lb), .val (.int d0), .val (.int d1), .val (.ref a100), .val (.ref a102), .val (.ref a105), .val (.int sm), .unset] [(.int kb), (.int ka)]) _
      by_cases hkk : ka = kb
      · skip
        refine Rch.st (fun _ k => XS.icmpNo X113.here hx rfl (hb hby at_188) rfl (teq hkk).2 k) ?_
        show Rch p e below T113 (mkF m 191 #[.val (.int p0), .val (.int p1), .val (.int p2), .val (.int p3), .val (.int ka), .val (.int kb), .val (.int la), .val (.int c0), .val (.int c1), .val (.int lb), .val (.int d0), .val (.int d1), .val (.ref a100), .val (.ref a102), .val (.ref a105), .val (.int sm), .unset] []) _
        refine Rch.st (fun _ k => XS.iload X113.here hx rfl (hb hby at_191) rfl k) ?_
        show Rch p e below T113 (mkF m 193 #[.val (.int p0), .val (.int p1), .val (.int p2), .val (.int p3), .val (.int ka), .val (.int kb), .val (.int la), .val (.int c0), .val (.int c1), .val (.int lb), .val (.int d0), .val (.int d1), .val (.ref a100), .val (.ref a102), .val (.ref a105), .val (.int sm), .unset] [(.int sm)]) _
        obtain ⟨rfl, q1⟩ | ⟨rfl, q1⟩ := hsm
        · skip
          show Rch p e below T113 (mkF m 193 #[.val (.int p0), .val (.int p1), .val (.int p2), .val (.int p3), .val (.int ka), .val (.int kb), .val (.int la), .val (.int c0), .val (.int c1), .val (.int lb), .val (.int d0), .val (.int d1), .val (.ref a100), .val (.ref a102), .val (.ref a105), .val (.int (1 : Int32)), .unset] [(.int (1 : Int32))]) _
          refine Rch.st (fun _ k => XS.ifNo X113.here hx rfl (hb hby at_193) rfl (by decide : ifCond.holds .eq (1 : Int32) = false) k) ?_
          show Rch p e below T113 (mkF m 196 #[.val (.int p0), .val (.int p1), .val (.int p2), .val (.int p3), .val (.int ka), .val (.int kb), .val (.int la), .val (.int c0), .val (.int c1), .val (.int lb), .val (.int d0), .val (.int d1), .val (.ref a100), .val (.ref a102), .val (.ref a105), .val (.int (1 : Int32)), .unset] []) _
          refine Rch.st (fun _ k => XS.iconst X113.here hx rfl (hb hby at_196)  k) ?_
          show Rch p e below T113 (mkF m 197 #[.val (.int p0), .val (.int p1), .val (.int p2), .val (.int p3), .val (.int ka), .val (.int kb), .val (.int la), .val (.int c0), .val (.int c1), .val (.int lb), .val (.int d0), .val (.int d1), .val (.ref a100), .val (.ref a102), .val (.ref a105), .val (.int (1 : Int32)), .unset] [(.int (1 : Int32))]) _
          refine Rch.st (fun _ k => XS.goto X113.here hx rfl (pc0 := 197) (pc' := 201) rfl (hb hby at_197) (by decide) (by decide) k) ?_
          show Rch p e below T113 (mkF m 201 #[.val (.int p0), .val (.int p1), .val (.int p2), .val (.int p3), .val (.int ka), .val (.int kb), .val (.int la), .val (.int c0), .val (.int c1), .val (.int lb), .val (.int d0), .val (.int d1), .val (.ref a100), .val (.ref a102), .val (.ref a105), .val (.int (1 : Int32)), .unset] [(.int (1 : Int32))]) _
          refine Rch.st (fun _ k => XS.istore X113.here hx rfl (hb hby at_201) rfl (l' := #[.val (.int p0), .val (.int p1), .val (.int p2), .val (.int p3), .val (.int ka), .val (.int kb), .val (.int la), .val (.int c0), .val (.int c1), .val (.int lb), .val (.int d0), .val (.int d1), .val (.ref a100), .val (.ref a102), .val (.ref a105), .val (.int (1 : Int32)), .val (.int (1 : Int32))]) rfl k) ?_
          show Rch p e below T113 (mkF m 203 #[.val (.int p0), .val (.int p1), .val (.int p2), .val (.int p3), .val (.int ka), .val (.int kb), .val (.int la), .val (.int c0), .val (.int c1), .val (.int lb), .val (.int d0), .val (.int d1), .val (.ref a100), .val (.ref a102), .val (.ref a105), .val (.int (1 : Int32)), .val (.int (1 : Int32))] []) _
          exact tail203 _ _ (Or.inl ⟨rfl, hkk, q1⟩)
        · skip
          show Rch p e below T113 (mkF m 193 #[.val (.int p0), .val (.int p1), .val (.int p2), .val (.int p3), .val (.int ka), .val (.int kb), .val (.int la), .val (.int c0), .val (.int c1), .val (.int lb), .val (.int d0), .val (.int d1), .val (.ref a100), .val (.ref a102), .val (.ref a105), .val (.int (0 : Int32)), .unset] [(.int (0 : Int32))]) _
          refine Rch.st (fun _ k => XS.ifYes X113.here hx rfl (pc0 := 193) (pc' := 200) rfl (hb hby at_193) rfl (by decide : ifCond.holds .eq (0 : Int32) = true) (by decide) (by decide) k) ?_
          show Rch p e below T113 (mkF m 200 #[.val (.int p0), .val (.int p1), .val (.int p2), .val (.int p3), .val (.int ka), .val (.int kb), .val (.int la), .val (.int c0), .val (.int c1), .val (.int lb), .val (.int d0), .val (.int d1), .val (.ref a100), .val (.ref a102), .val (.ref a105), .val (.int (0 : Int32)), .unset] []) _
          refine Rch.st (fun _ k => XS.iconst X113.here hx rfl (hb hby at_200)  k) ?_
          show Rch p e below T113 (mkF m 201 #[.val (.int p0), .val (.int p1), .val (.int p2), .val (.int p3), .val (.int ka), .val (.int kb), .val (.int la), .val (.int c0), .val (.int c1), .val (.int lb), .val (.int d0), .val (.int d1), .val (.ref a100), .val (.ref a102), .val (.ref a105), .val (.int (0 : Int32)), .unset] [(.int (0 : Int32))]) _
          refine Rch.st (fun _ k => XS.istore X113.here hx rfl (hb hby at_201) rfl (l' := #[.val (.int p0), .val (.int p1), .val (.int p2), .val (.int p3), .val (.int ka), .val (.int kb), .val (.int la), .val (.int c0), .val (.int c1), .val (.int lb), .val (.int d0), .val (.int d1), .val (.ref a100), .val (.ref a102), .val (.ref a105), .val (.int (0 : Int32)), .val (.int (0 : Int32))]) rfl k) ?_
          show Rch p e below T113 (mkF m 203 #[.val (.int p0), .val (.int p1), .val (.int p2), .val (.int p3), .val (.int ka), .val (.int kb), .val (.int la), .val (.int c0), .val (.int c1), .val (.int lb), .val (.int d0), .val (.int d1), .val (.ref a100), .val (.ref a102), .val (.ref a105), .val (.int (0 : Int32)), .val (.int (0 : Int32))] []) _
          exact tail203 _ _ (Or.inr ⟨rfl, fun q => q1 q.2⟩)
      · skip
        refine Rch.st (fun _ k => XS.icmpYes X113.here hx rfl (pc0 := 188) (pc' := 200) rfl (hb hby at_188) rfl (feq hkk).2 (by decide) (by decide) k) ?_
        show Rch p e below T113 (mkF m 200 #[.val (.int p0), .val (.int p1), .val (.int p2), .val (.int p3), .val (.int ka), .val (.int kb), .val (.int la), .val (.int c0), .val (.int c1), .val (.int lb), .val (.int d0), .val (.int d1), .val (.ref a100), .val (.ref a102), .val (.ref a105), .val (.int sm), .unset] []) _
        refine Rch.st (fun _ k => XS.iconst X113.here hx rfl (hb hby at_200)  k) ?_
        show Rch p e below T113 (mkF m 201 #[.val (.int p0), .val (.int p1), .val (.int p2), .val (.int p3), .val (.int ka), .val (.int kb), .val (.int la), .val (.int c0), .val (.int c1), .val (.int lb), .val (.int d0), .val (.int d1), .val (.ref a100), .val (.ref a102), .val (.ref a105), .val (.int sm), .unset] [(.int (0 : Int32))]) _
        refine Rch.st (fun _ k => XS.istore X113.here hx rfl (hb hby at_201) rfl (l' := #[.val (.int p0), .val (.int p1), .val (.int p2), .val (.int p3), .val (.int ka), .val (.int kb), .val (.int la), .val (.int c0), .val (.int c1), .val (.int lb), .val (.int d0), .val (.int d1), .val (.ref a100), .val (.ref a102), .val (.ref a105), .val (.int sm), .val (.int (0 : Int32))]) rfl k) ?_
        show Rch p e below T113 (mkF m 203 #[.val (.int p0), .val (.int p1), .val (.int p2), .val (.int p3), .val (.int ka), .val (.int kb), .val (.int la), .val (.int c0), .val (.int c1), .val (.int lb), .val (.int d0), .val (.int d1), .val (.ref a100), .val (.ref a102), .val (.ref a105), .val (.int sm), .val (.int (0 : Int32))] []) _
        exact tail203 _ _ (Or.inr ⟨rfl, fun q => hkk q.1⟩)
    by_cases hll : la = lb
    · skip
      refine Rch.st (fun _ k => XS.icmpNo X113.here hx rfl (hb hby at_148) rfl (teq hll).2 k) ?_
      show Rch p e below T113 (mkF m 151 #[.val (.int p0), .val (.int p1), .val (.int p2), .val (.int p3), .val (.int ka), .val (.int kb), .val (.int la), .val (.int c0), .val (.int c1), .val (.int lb), .val (.int d0), .val (.int d1), .val (.ref a100), .val (.ref a102), .val (.ref a105), .unset, .unset] []) _
      refine Rch.st (fun _ k => XS.iload X113.here hx rfl (hb hby at_151) rfl k) ?_
      show Rch p e below T113 (mkF m 153 #[.val (.int p0), .val (.int p1), .val (.int p2), .val (.int p3), .val (.int ka), .val (.int kb), .val (.int la), .val (.int c0), .val (.int c1), .val (.int lb), .val (.int d0), .val (.int d1), .val (.ref a100), .val (.ref a102), .val (.ref a105), .unset, .unset] [(.int la)]) _
      refine Rch.st (fun _ k => XS.iconst X113.here hx rfl (hb hby at_153)  k) ?_
      show Rch p e below T113 (mkF m 154 #[.val (.int p0), .val (.int p1), .val (.int p2), .val (.int p3), .val (.int ka), .val (.int kb), .val (.int la), .val (.int c0), .val (.int c1), .val (.int lb), .val (.int d0), .val (.int d1), .val (.ref a100), .val (.ref a102), .val (.ref a105), .unset, .unset] [(.int (1 : Int32)), (.int la)]) _
      by_cases h1 : la < (1 : Int32)
      · skip
        refine Rch.st (fun _ k => XS.icmpYes X113.here hx rfl (pc0 := 154) (pc' := 164) rfl (hb hby at_154) rfl (tlt h1).1 (by decide) (by decide) k) ?_
        show Rch p e below T113 (mkF m 164 #[.val (.int p0), .val (.int p1), .val (.int p2), .val (.int p3), .val (.int ka), .val (.int kb), .val (.int la), .val (.int c0), .val (.int c1), .val (.int lb), .val (.int d0), .val (.int d1), .val (.ref a100), .val (.ref a102), .val (.ref a105), .unset, .unset] []) _
        refine Rch.st (fun _ k => XS.iload X113.here hx rfl (hb hby at_164) rfl k) ?_
        show Rch p e below T113 (mkF m 166 #[.val (.int p0), .val (.int p1), .val (.int p2), .val (.int p3), .val (.int ka), .val (.int kb), .val (.int la), .val (.int c0), .val (.int c1), .val (.int lb), .val (.int d0), .val (.int d1), .val (.ref a100), .val (.ref a102), .val (.ref a105), .unset, .unset] [(.int la)]) _
        refine Rch.st (fun _ k => XS.iconst X113.here hx rfl (hb hby at_166)  k) ?_
        show Rch p e below T113 (mkF m 167 #[.val (.int p0), .val (.int p1), .val (.int p2), .val (.int p3), .val (.int ka), .val (.int kb), .val (.int la), .val (.int c0), .val (.int c1), .val (.int lb), .val (.int d0), .val (.int d1), .val (.ref a100), .val (.ref a102), .val (.ref a105), .unset, .unset] [(.int (2 : Int32)), (.int la)]) _
        have z0 : la = 0 := by rcases rla with q | q | q <;> subst q <;> first | rfl | (exact absurd h1 (by decide))
        have h2 : la < (2 : Int32) := by rw [z0]; decide
        refine Rch.st (fun _ k => XS.icmpYes X113.here hx rfl (pc0 := 167) (pc' := 177) rfl (hb hby at_167) rfl (tlt h2).1 (by decide) (by decide) k) ?_
        show Rch p e below T113 (mkF m 177 #[.val (.int p0), .val (.int p1), .val (.int p2), .val (.int p3), .val (.int ka), .val (.int kb), .val (.int la), .val (.int c0), .val (.int c1), .val (.int lb), .val (.int d0), .val (.int d1), .val (.ref a100), .val (.ref a102), .val (.ref a105), .unset, .unset] []) _
        refine Rch.st (fun _ k => XS.iconst X113.here hx rfl (hb hby at_177)  k) ?_
        show Rch p e below T113 (mkF m 178 #[.val (.int p0), .val (.int p1), .val (.int p2), .val (.int p3), .val (.int ka), .val (.int kb), .val (.int la), .val (.int c0), .val (.int c1), .val (.int lb), .val (.int d0), .val (.int d1), .val (.ref a100), .val (.ref a102), .val (.ref a105), .unset, .unset] [(.int (1 : Int32))]) _
        refine Rch.st (fun _ k => XS.goto X113.here hx rfl (pc0 := 178) (pc' := 182) rfl (hb hby at_178) (by decide) (by decide) k) ?_
        show Rch p e below T113 (mkF m 182 #[.val (.int p0), .val (.int p1), .val (.int p2), .val (.int p3), .val (.int ka), .val (.int kb), .val (.int la), .val (.int c0), .val (.int c1), .val (.int lb), .val (.int d0), .val (.int d1), .val (.ref a100), .val (.ref a102), .val (.ref a105), .unset, .unset] [(.int (1 : Int32))]) _
        exact tail182 _ (Or.inl ⟨rfl, by rw [← hll, z0]; rfl⟩)
      · skip
        refine Rch.st (fun _ k => XS.icmpNo X113.here hx rfl (hb hby at_154) rfl (flt h1).1 k) ?_
        show Rch p e below T113 (mkF m 157 #[.val (.int p0), .val (.int p1), .val (.int p2), .val (.int p3), .val (.int ka), .val (.int kb), .val (.int la), .val (.int c0), .val (.int c1), .val (.int lb), .val (.int d0), .val (.int d1), .val (.ref a100), .val (.ref a102), .val (.ref a105), .unset, .unset] []) _
        refine Rch.st (fun _ k => XS.iload X113.here hx rfl (hb hby at_157) rfl k) ?_
        show Rch p e below T113 (mkF m 159 #[.val (.int p0), .val (.int p1), .val (.int p2), .val (.int p3), .val (.int ka), .val (.int kb), .val (.int la), .val (.int c0), .val (.int c1), .val (.int lb), .val (.int d0), .val (.int d1), .val (.ref a100), .val (.ref a102), .val (.ref a105), .unset, .unset] [(.int c0)]) _
        refine Rch.st (fun _ k => XS.iload X113.here hx rfl (hb hby at_159) rfl k) ?_
        show Rch p e below T113 (mkF m 161 #[.val (.int p0), .val (.int p1), .val (.int p2), .val (.int p3), .val (.int ka), .val (.int kb), .val (.int la), .val (.int c0), .val (.int c1), .val (.int lb), .val (.int d0), .val (.int d1), .val (.ref a100), .val (.ref a102), .val (.ref a105), .unset, .unset] [(.int d0), (.int c0)]) _
        by_cases h3 : c0 = d0
        · skip
          refine Rch.st (fun _ k => XS.icmpNo X113.here hx rfl (hb hby at_161) rfl (teq h3).2 k) ?_
          show Rch p e below T113 (mkF m 164 #[.val (.int p0), .val (.int p1), .val (.int p2), .val (.int p3), .val (.int ka), .val (.int kb), .val (.int la), .val (.int c0), .val (.int c1), .val (.int lb), .val (.int d0), .val (.int d1), .val (.ref a100), .val (.ref a102), .val (.ref a105), .unset, .unset] []) _
          refine Rch.st (fun _ k => XS.iload X113.here hx rfl (hb hby at_164) rfl k) ?_
          show Rch p e below T113 (mkF m 166 #[.val (.int p0), .val (.int p1), .val (.int p2), .val (.int p3), .val (.int ka), .val (.int kb), .val (.int la), .val (.int c0), .val (.int c1), .val (.int lb), .val (.int d0), .val (.int d1), .val (.ref a100), .val (.ref a102), .val (.ref a105), .unset, .unset] [(.int la)]) _
          refine Rch.st (fun _ k => XS.iconst X113.here hx rfl (hb hby at_166)  k) ?_
          show Rch p e below T113 (mkF m 167 #[.val (.int p0), .val (.int p1), .val (.int p2), .val (.int p3), .val (.int ka), .val (.int kb), .val (.int la), .val (.int c0), .val (.int c1), .val (.int lb), .val (.int d0), .val (.int d1), .val (.ref a100), .val (.ref a102), .val (.ref a105), .unset, .unset] [(.int (2 : Int32)), (.int la)]) _
          by_cases h2 : la < (2 : Int32)
          · skip
            refine Rch.st (fun _ k => XS.icmpYes X113.here hx rfl (pc0 := 167) (pc' := 177) rfl (hb hby at_167) rfl (tlt h2).1 (by decide) (by decide) k) ?_
            show Rch p e below T113 (mkF m 177 #[.val (.int p0), .val (.int p1), .val (.int p2), .val (.int p3), .val (.int ka), .val (.int kb), .val (.int la), .val (.int c0), .val (.int c1), .val (.int lb), .val (.int d0), .val (.int d1), .val (.ref a100), .val (.ref a102), .val (.ref a105), .unset, .unset] []) _
            have z1 : la = 1 := by rcases rla with q | q | q <;> subst q <;> first | rfl | (exact absurd h1 (by decide)) | (exact absurd h2 (by decide))
            refine Rch.st (fun _ k => XS.iconst X113.here hx rfl (hb hby at_177)  k) ?_
            show Rch p e below T113 (mkF m 178 #[.val (.int p0), .val (.int p1), .val (.int p2), .val (.int p3), .val (.int ka), .val (.int kb), .val (.int la), .val (.int c0), .val (.int c1), .val (.int lb), .val (.int d0), .val (.int d1), .val (.ref a100), .val (.ref a102), .val (.ref a105), .unset, .unset] [(.int (1 : Int32))]) _
            refine Rch.st (fun _ k => XS.goto X113.here hx rfl (pc0 := 178) (pc' := 182) rfl (hb hby at_178) (by decide) (by decide) k) ?_
            show Rch p e below T113 (mkF m 182 #[.val (.int p0), .val (.int p1), .val (.int p2), .val (.int p3), .val (.int ka), .val (.int kb), .val (.int la), .val (.int c0), .val (.int c1), .val (.int lb), .val (.int d0), .val (.int d1), .val (.ref a100), .val (.ref a102), .val (.ref a105), .unset, .unset] [(.int (1 : Int32))]) _
            exact tail182 _ (Or.inl ⟨rfl, by rw [← hll, z1, h3]; rfl⟩)
          · skip
            refine Rch.st (fun _ k => XS.icmpNo X113.here hx rfl (hb hby at_167) rfl (flt h2).1 k) ?_
            show Rch p e below T113 (mkF m 170 #[.val (.int p0), .val (.int p1), .val (.int p2), .val (.int p3), .val (.int ka), .val (.int kb), .val (.int la), .val (.int c0), .val (.int c1), .val (.int lb), .val (.int d0), .val (.int d1), .val (.ref a100), .val (.ref a102), .val (.ref a105), .unset, .unset] []) _
            refine Rch.st (fun _ k => XS.iload X113.here hx rfl (hb hby at_170) rfl k) ?_
            show Rch p e below T113 (mkF m 172 #[.val (.int p0), .val (.int p1), .val (.int p2), .val (.int p3), .val (.int ka), .val (.int kb), .val (.int la), .val (.int c0), .val (.int c1), .val (.int lb), .val (.int d0), .val (.int d1), .val (.ref a100), .val (.ref a102), .val (.ref a105), .unset, .unset] [(.int c1)]) _
            refine Rch.st (fun _ k => XS.iload X113.here hx rfl (hb hby at_172) rfl k) ?_
            show Rch p e below T113 (mkF m 174 #[.val (.int p0), .val (.int p1), .val (.int p2), .val (.int p3), .val (.int ka), .val (.int kb), .val (.int la), .val (.int c0), .val (.int c1), .val (.int lb), .val (.int d0), .val (.int d1), .val (.ref a100), .val (.ref a102), .val (.ref a105), .unset, .unset] [(.int d1), (.int c1)]) _
            have z2 : la = 2 := by rcases rla with q | q | q <;> subst q <;> first | rfl | (exact absurd h2 (by decide)) | (exact absurd (by decide) h2)
            by_cases h4 : c1 = d1
            · skip
              refine Rch.st (fun _ k => XS.icmpNo X113.here hx rfl (hb hby at_174) rfl (teq h4).2 k) ?_
              show Rch p e below T113 (mkF m 177 #[.val (.int p0), .val (.int p1), .val (.int p2), .val (.int p3), .val (.int ka), .val (.int kb), .val (.int la), .val (.int c0), .val (.int c1), .val (.int lb), .val (.int d0), .val (.int d1), .val (.ref a100), .val (.ref a102), .val (.ref a105), .unset, .unset] []) _
              refine Rch.st (fun _ k => XS.iconst X113.here hx rfl (hb hby at_177)  k) ?_
              show Rch p e below T113 (mkF m 178 #[.val (.int p0), .val (.int p1), .val (.int p2), .val (.int p3), .val (.int ka), .val (.int kb), .val (.int la), .val (.int c0), .val (.int c1), .val (.int lb), .val (.int d0), .val (.int d1), .val (.ref a100), .val (.ref a102), .val (.ref a105), .unset, .unset] [(.int (1 : Int32))]) _
              refine Rch.st (fun _ k => XS.goto X113.here hx rfl (pc0 := 178) (pc' := 182) rfl (hb hby at_178) (by decide) (by decide) k) ?_
              show Rch p e below T113 (mkF m 182 #[.val (.int p0), .val (.int p1), .val (.int p2), .val (.int p3), .val (.int ka), .val (.int kb), .val (.int la), .val (.int c0), .val (.int c1), .val (.int lb), .val (.int d0), .val (.int d1), .val (.ref a100), .val (.ref a102), .val (.ref a105), .unset, .unset] [(.int (1 : Int32))]) _
              exact tail182 _ (Or.inl ⟨rfl, by rw [← hll, z2, h3, h4]⟩)
            · skip
              refine Rch.st (fun _ k => XS.icmpYes X113.here hx rfl (pc0 := 174) (pc' := 181) rfl (hb hby at_174) rfl (feq h4).2 (by decide) (by decide) k) ?_
              show Rch p e below T113 (mkF m 181 #[.val (.int p0), .val (.int p1), .val (.int p2), .val (.int p3), .val (.int ka), .val (.int kb), .val (.int la), .val (.int c0), .val (.int c1), .val (.int lb), .val (.int d0), .val (.int d1), .val (.ref a100), .val (.ref a102), .val (.ref a105), .unset, .unset] []) _
              refine Rch.st (fun _ k => XS.iconst X113.here hx rfl (hb hby at_181)  k) ?_
              show Rch p e below T113 (mkF m 182 #[.val (.int p0), .val (.int p1), .val (.int p2), .val (.int p3), .val (.int ka), .val (.int kb), .val (.int la), .val (.int c0), .val (.int c1), .val (.int lb), .val (.int d0), .val (.int d1), .val (.ref a100), .val (.ref a102), .val (.ref a105), .unset, .unset] [(.int (0 : Int32))]) _
              exact tail182 _ (Or.inr ⟨rfl, fun q => h4 (by rw [← hll, z2] at q; exact (List.cons.inj (List.cons.inj q).2).1)⟩)
        · skip
          refine Rch.st (fun _ k => XS.icmpYes X113.here hx rfl (pc0 := 161) (pc' := 181) rfl (hb hby at_161) rfl (feq h3).2 (by decide) (by decide) k) ?_
          show Rch p e below T113 (mkF m 181 #[.val (.int p0), .val (.int p1), .val (.int p2), .val (.int p3), .val (.int ka), .val (.int kb), .val (.int la), .val (.int c0), .val (.int c1), .val (.int lb), .val (.int d0), .val (.int d1), .val (.ref a100), .val (.ref a102), .val (.ref a105), .unset, .unset] []) _
          refine Rch.st (fun _ k => XS.iconst X113.here hx rfl (hb hby at_181)  k) ?_
          show Rch p e below T113 (mkF m 182 #[.val (.int p0), .val (.int p1), .val (.int p2), .val (.int p3), .val (.int ka), .val (.int kb), .val (.int la), .val (.int c0), .val (.int c1), .val (.int lb), .val (.int d0), .val (.int d1), .val (.ref a100), .val (.ref a102), .val (.ref a105), .unset, .unset] [(.int (0 : Int32))]) _
          exact tail182 _ (Or.inr ⟨rfl, fun q => h3 (by rw [← hll] at q; rcases rla with z | z | z <;> subst z <;> first | exact absurd (by decide) h1 | exact (List.cons.inj q).1)⟩)
    · skip
      refine Rch.st (fun _ k => XS.icmpYes X113.here hx rfl (pc0 := 148) (pc' := 181) rfl (hb hby at_148) rfl (feq hll).2 (by decide) (by decide) k) ?_
      show Rch p e below T113 (mkF m 181 #[.val (.int p0), .val (.int p1), .val (.int p2), .val (.int p3), .val (.int ka), .val (.int kb), .val (.int la), .val (.int c0), .val (.int c1), .val (.int lb), .val (.int d0), .val (.int d1), .val (.ref a100), .val (.ref a102), .val (.ref a105), .unset, .unset] []) _
      refine Rch.st (fun _ k => XS.iconst X113.here hx rfl (hb hby at_181)  k) ?_
      show Rch p e below T113 (mkF m 182 #[.val (.int p0), .val (.int p1), .val (.int p2), .val (.int p3), .val (.int ka), .val (.int kb), .val (.int la), .val (.int c0), .val (.int c1), .val (.int lb), .val (.int d0), .val (.int d1), .val (.ref a100), .val (.ref a102), .val (.ref a105), .unset, .unset] [(.int (0 : Int32))]) _
      exact tail182 _ (Or.inr ⟨rfl, strL_ne rla rlb hll⟩)
  have tail79 : ∀ (d0 : Int32), C8 d0 → Rch p e below s₁ (mkF m 79 #[.val (.int p0), .val (.int p1), .val (.int p2), .val (.int p3), .val (.int ka), .val (.int kb), .val (.int la), .val (.int c0), .val (.int c1), .val (.int lb), .val (.int d0), .unset, .unset, .unset, .unset, .unset, .unset] []) (fun U o => ∃ v L, o = .returned v ∧ Q_law Z kw p0 p1 p2 p3 h0 n0 v U.heap L ∧ CHr Z EL s.vm s.heap U.vm U.heap ∧ ReturnedEndW s o U L 24 1152) := by
    intro d0 m0
    show Rch p e below s₁ (mkF m 79 #[.val (.int p0), .val (.int p1), .val (.int p2), .val (.int p3), .val (.int ka), .val (.int kb), .val (.int la), .val (.int c0), .val (.int c1), .val (.int lb), .val (.int d0), .unset, .unset, .unset, .unset, .unset, .unset] []) _
    refine Rch.st (fun _ k => XS.iloadN X0.here hx rfl (hb hby at_79) rfl k) ?_
    show Rch p e below s₁ (mkF m 80 #[.val (.int p0), .val (.int p1), .val (.int p2), .val (.int p3), .val (.int ka), .val (.int kb), .val (.int la), .val (.int c0), .val (.int c1), .val (.int lb), .val (.int d0), .unset, .unset, .unset, .unset, .unset, .unset] [(.int p2)]) _
    refine Rch.st (fun _ k => XS.bipush X0.here hx rfl (hb hby at_80)  k) ?_
    show Rch p e below s₁ (mkF m 82 #[.val (.int p0), .val (.int p1), .val (.int p2), .val (.int p3), .val (.int ka), .val (.int kb), .val (.int la), .val (.int c0), .val (.int c1), .val (.int lb), .val (.int d0), .unset, .unset, .unset, .unset, .unset, .unset] [(.int (11 : Int32)), (.int p2)]) _
    refine Rch.st (fun _ k => XT.iushr X0.here hx rfl (hb hby at_82) rfl k) ?_
    show Rch p e below s₁ (mkF m 83 #[.val (.int p0), .val (.int p1), .val (.int p2), .val (.int p3), .val (.int ka), .val (.int kb), .val (.int la), .val (.int c0), .val (.int c1), .val (.int lb), .val (.int d0), .unset, .unset, .unset, .unset, .unset, .unset] [(.int (XT.ushr p2 (11 : Int32)))]) _
    refine Rch.st (fun _ k => XS.iconst X0.here hx rfl (hb hby at_83)  k) ?_
    show Rch p e below s₁ (mkF m 84 #[.val (.int p0), .val (.int p1), .val (.int p2), .val (.int p3), .val (.int ka), .val (.int kb), .val (.int la), .val (.int c0), .val (.int c1), .val (.int lb), .val (.int d0), .unset, .unset, .unset, .unset, .unset, .unset] [(.int (1 : Int32)), (.int (XT.ushr p2 (11 : Int32)))]) _
    refine Rch.st (fun _ k => XS.iand X0.here hx rfl (hb hby at_84) rfl k) ?_
    show Rch p e below s₁ (mkF m 85 #[.val (.int p0), .val (.int p1), .val (.int p2), .val (.int p3), .val (.int ka), .val (.int kb), .val (.int la), .val (.int c0), .val (.int c1), .val (.int lb), .val (.int d0), .unset, .unset, .unset, .unset, .unset, .unset] [(.int ((XT.ushr p2 (11 : Int32)) &&& (1 : Int32)))]) _
    by_cases hb1 : ((XT.ushr p2 (11 : Int32)) &&& (1 : Int32)) = (0 : Int32)
    · skip
      refine Rch.st (fun _ k => XS.ifYes X0.here hx rfl (pc0 := 85) (pc' := 93) rfl (hb hby at_85) rfl ((if0 _ _).trans (teq hb1).1) (by decide) (by decide) k) ?_
      show Rch p e below s₁ (mkF m 93 #[.val (.int p0), .val (.int p1), .val (.int p2), .val (.int p3), .val (.int ka), .val (.int kb), .val (.int la), .val (.int c0), .val (.int c1), .val (.int lb), .val (.int d0), .unset, .unset, .unset, .unset, .unset, .unset] []) _
      refine Rch.st (fun _ k => XS.iloadN X0.here hx rfl (hb hby at_93) rfl k) ?_
      show Rch p e below s₁ (mkF m 94 #[.val (.int p0), .val (.int p1), .val (.int p2), .val (.int p3), .val (.int ka), .val (.int kb), .val (.int la), .val (.int c0), .val (.int c1), .val (.int lb), .val (.int d0), .unset, .unset, .unset, .unset, .unset, .unset] [(.int p2)]) _
      refine Rch.st (fun _ k => XS.bipush X0.here hx rfl (hb hby at_94)  k) ?_
      show Rch p e below s₁ (mkF m 96 #[.val (.int p0), .val (.int p1), .val (.int p2), .val (.int p3), .val (.int ka), .val (.int kb), .val (.int la), .val (.int c0), .val (.int c1), .val (.int lb), .val (.int d0), .unset, .unset, .unset, .unset, .unset, .unset] [(.int (12 : Int32)), (.int p2)]) _
      refine Rch.st (fun _ k => XT.iushr X0.here hx rfl (hb hby at_96) rfl k) ?_
      show Rch p e below s₁ (mkF m 97 #[.val (.int p0), .val (.int p1), .val (.int p2), .val (.int p3), .val (.int ka), .val (.int kb), .val (.int la), .val (.int c0), .val (.int c1), .val (.int lb), .val (.int d0), .unset, .unset, .unset, .unset, .unset, .unset] [(.int (XT.ushr p2 (12 : Int32)))]) _
      refine Rch.st (fun _ k => XS.sipush X0.here hx rfl (hb hby at_97)  k) ?_
      show Rch p e below s₁ (mkF m 100 #[.val (.int p0), .val (.int p1), .val (.int p2), .val (.int p3), .val (.int ka), .val (.int kb), .val (.int la), .val (.int c0), .val (.int c1), .val (.int lb), .val (.int d0), .unset, .unset, .unset, .unset, .unset, .unset] [(.int (255 : Int32)), (.int (XT.ushr p2 (12 : Int32)))]) _
      refine Rch.st (fun _ k => XS.iand X0.here hx rfl (hb hby at_100) rfl k) ?_
      show Rch p e below s₁ (mkF m 101 #[.val (.int p0), .val (.int p1), .val (.int p2), .val (.int p3), .val (.int ka), .val (.int kb), .val (.int la), .val (.int c0), .val (.int c1), .val (.int lb), .val (.int d0), .unset, .unset, .unset, .unset, .unset, .unset] [(.int ((XT.ushr p2 (12 : Int32)) &&& (255 : Int32)))]) _
      refine Rch.st (fun _ k => XT.i2c X0.here hx rfl (hb hby at_101) rfl k) ?_
      show Rch p e below s₁ (mkF m 102 #[.val (.int p0), .val (.int p1), .val (.int p2), .val (.int p3), .val (.int ka), .val (.int kb), .val (.int la), .val (.int c0), .val (.int c1), .val (.int lb), .val (.int d0), .unset, .unset, .unset, .unset, .unset, .unset] [(.int (((XT.ushr p2 (12 : Int32)) &&& (255 : Int32)).toUInt32.toUInt16.toUInt32.toInt32))]) _
      generalize hd1 : (((XT.ushr p2 (12 : Int32)) &&& (255 : Int32)).toUInt32.toUInt16.toUInt32.toInt32) = d1
      show Rch p e below s₁ (mkF m 102 #[.val (.int p0), .val (.int p1), .val (.int p2), .val (.int p3), .val (.int ka), .val (.int kb), .val (.int la), .val (.int c0), .val (.int c1), .val (.int lb), .val (.int d0), .unset, .unset, .unset, .unset, .unset, .unset] [(.int d1)]) _
      refine Rch.st (fun _ k => XS.istore X0.here hx rfl (hb hby at_102) rfl (l' := #[.val (.int p0), .val (.int p1), .val (.int p2), .val (.int p3), .val (.int ka), .val (.int kb), .val (.int la), .val (.int c0), .val (.int c1), .val (.int lb), .val (.int d0), .val (.int d1), .unset, .unset, .unset, .unset, .unset]) rfl k) ?_
      show Rch p e below s₁ (mkF m 104 #[.val (.int p0), .val (.int p1), .val (.int p2), .val (.int p3), .val (.int ka), .val (.int kb), .val (.int la), .val (.int c0), .val (.int c1), .val (.int lb), .val (.int d0), .val (.int d1), .unset, .unset, .unset, .unset, .unset] []) _
      exact tail104 _ _ m0 (hd1 ▸ c8_and _)
    · skip
      refine Rch.st (fun _ k => XS.ifNo X0.here hx rfl (hb hby at_85) rfl ((if0 _ _).trans (feq hb1).1) k) ?_
      show Rch p e below s₁ (mkF m 88 #[.val (.int p0), .val (.int p1), .val (.int p2), .val (.int p3), .val (.int ka), .val (.int kb), .val (.int la), .val (.int c0), .val (.int c1), .val (.int lb), .val (.int d0), .unset, .unset, .unset, .unset, .unset, .unset] []) _
      refine Rch.st (fun _ k => XS.iload X0.here hx rfl (hb hby at_88) rfl k) ?_
      show Rch p e below s₁ (mkF m 90 #[.val (.int p0), .val (.int p1), .val (.int p2), .val (.int p3), .val (.int ka), .val (.int kb), .val (.int la), .val (.int c0), .val (.int c1), .val (.int lb), .val (.int d0), .unset, .unset, .unset, .unset, .unset, .unset] [(.int c1)]) _
      refine Rch.st (fun _ k => XS.goto X0.here hx rfl (pc0 := 90) (pc' := 102) rfl (hb hby at_90) (by decide) (by decide) k) ?_
      show Rch p e below s₁ (mkF m 102 #[.val (.int p0), .val (.int p1), .val (.int p2), .val (.int p3), .val (.int ka), .val (.int kb), .val (.int la), .val (.int c0), .val (.int c1), .val (.int lb), .val (.int d0), .unset, .unset, .unset, .unset, .unset, .unset] [(.int c1)]) _
      refine Rch.st (fun _ k => XS.istore X0.here hx rfl (hb hby at_102) rfl (l' := #[.val (.int p0), .val (.int p1), .val (.int p2), .val (.int p3), .val (.int ka), .val (.int kb), .val (.int la), .val (.int c0), .val (.int c1), .val (.int lb), .val (.int d0), .val (.int c1), .unset, .unset, .unset, .unset, .unset]) rfl k) ?_
      show Rch p e below s₁ (mkF m 104 #[.val (.int p0), .val (.int p1), .val (.int p2), .val (.int p3), .val (.int ka), .val (.int kb), .val (.int la), .val (.int c0), .val (.int c1), .val (.int lb), .val (.int d0), .val (.int c1), .unset, .unset, .unset, .unset, .unset] []) _
      exact tail104 _ _ m0 k1
  by_cases hb0 : ((XT.ushr p2 (2 : Int32)) &&& (1 : Int32)) = (0 : Int32)
  · skip
    refine Rch.st (fun _ k => XS.ifYes X0.here hx rfl (pc0 := 61) (pc' := 69) rfl (hb hby at_61) rfl ((if0 _ _).trans (teq hb0).1) (by decide) (by decide) k) ?_
    show Rch p e below s₁ (mkF m 69 #[.val (.int p0), .val (.int p1), .val (.int p2), .val (.int p3), .val (.int ka), .val (.int kb), .val (.int la), .val (.int c0), .val (.int c1), .val (.int lb), .unset, .unset, .unset, .unset, .unset, .unset, .unset] []) _
    refine Rch.st (fun _ k => XS.iloadN X0.here hx rfl (hb hby at_69) rfl k) ?_
    show Rch p e below s₁ (mkF m 70 #[.val (.int p0), .val (.int p1), .val (.int p2), .val (.int p3), .val (.int ka), .val (.int kb), .val (.int la), .val (.int c0), .val (.int c1), .val (.int lb), .unset, .unset, .unset, .unset, .unset, .unset, .unset] [(.int p2)]) _
    refine Rch.st (fun _ k => XS.iconst X0.here hx rfl (hb hby at_70)  k) ?_
    show Rch p e below s₁ (mkF m 71 #[.val (.int p0), .val (.int p1), .val (.int p2), .val (.int p3), .val (.int ka), .val (.int kb), .val (.int la), .val (.int c0), .val (.int c1), .val (.int lb), .unset, .unset, .unset, .unset, .unset, .unset, .unset] [(.int (3 : Int32)), (.int p2)]) _
    refine Rch.st (fun _ k => XT.iushr X0.here hx rfl (hb hby at_71) rfl k) ?_
    show Rch p e below s₁ (mkF m 72 #[.val (.int p0), .val (.int p1), .val (.int p2), .val (.int p3), .val (.int ka), .val (.int kb), .val (.int la), .val (.int c0), .val (.int c1), .val (.int lb), .unset, .unset, .unset, .unset, .unset, .unset, .unset] [(.int (XT.ushr p2 (3 : Int32)))]) _
    refine Rch.st (fun _ k => XS.sipush X0.here hx rfl (hb hby at_72)  k) ?_
    show Rch p e below s₁ (mkF m 75 #[.val (.int p0), .val (.int p1), .val (.int p2), .val (.int p3), .val (.int ka), .val (.int kb), .val (.int la), .val (.int c0), .val (.int c1), .val (.int lb), .unset, .unset, .unset, .unset, .unset, .unset, .unset] [(.int (255 : Int32)), (.int (XT.ushr p2 (3 : Int32)))]) _
    refine Rch.st (fun _ k => XS.iand X0.here hx rfl (hb hby at_75) rfl k) ?_
    show Rch p e below s₁ (mkF m 76 #[.val (.int p0), .val (.int p1), .val (.int p2), .val (.int p3), .val (.int ka), .val (.int kb), .val (.int la), .val (.int c0), .val (.int c1), .val (.int lb), .unset, .unset, .unset, .unset, .unset, .unset, .unset] [(.int ((XT.ushr p2 (3 : Int32)) &&& (255 : Int32)))]) _
    refine Rch.st (fun _ k => XT.i2c X0.here hx rfl (hb hby at_76) rfl k) ?_
    show Rch p e below s₁ (mkF m 77 #[.val (.int p0), .val (.int p1), .val (.int p2), .val (.int p3), .val (.int ka), .val (.int kb), .val (.int la), .val (.int c0), .val (.int c1), .val (.int lb), .unset, .unset, .unset, .unset, .unset, .unset, .unset] [(.int (((XT.ushr p2 (3 : Int32)) &&& (255 : Int32)).toUInt32.toUInt16.toUInt32.toInt32))]) _
    generalize hd0 : (((XT.ushr p2 (3 : Int32)) &&& (255 : Int32)).toUInt32.toUInt16.toUInt32.toInt32) = d0
    show Rch p e below s₁ (mkF m 77 #[.val (.int p0), .val (.int p1), .val (.int p2), .val (.int p3), .val (.int ka), .val (.int kb), .val (.int la), .val (.int c0), .val (.int c1), .val (.int lb), .unset, .unset, .unset, .unset, .unset, .unset, .unset] [(.int d0)]) _
    refine Rch.st (fun _ k => XS.istore X0.here hx rfl (hb hby at_77) rfl (l' := #[.val (.int p0), .val (.int p1), .val (.int p2), .val (.int p3), .val (.int ka), .val (.int kb), .val (.int la), .val (.int c0), .val (.int c1), .val (.int lb), .val (.int d0), .unset, .unset, .unset, .unset, .unset, .unset]) rfl k) ?_
    show Rch p e below s₁ (mkF m 79 #[.val (.int p0), .val (.int p1), .val (.int p2), .val (.int p3), .val (.int ka), .val (.int kb), .val (.int la), .val (.int c0), .val (.int c1), .val (.int lb), .val (.int d0), .unset, .unset, .unset, .unset, .unset, .unset] []) _
    exact tail79 _ (hd0 ▸ c8_and _)
  · skip
    refine Rch.st (fun _ k => XS.ifNo X0.here hx rfl (hb hby at_61) rfl ((if0 _ _).trans (feq hb0).1) k) ?_
    show Rch p e below s₁ (mkF m 64 #[.val (.int p0), .val (.int p1), .val (.int p2), .val (.int p3), .val (.int ka), .val (.int kb), .val (.int la), .val (.int c0), .val (.int c1), .val (.int lb), .unset, .unset, .unset, .unset, .unset, .unset, .unset] []) _
    refine Rch.st (fun _ k => XS.iload X0.here hx rfl (hb hby at_64) rfl k) ?_
    show Rch p e below s₁ (mkF m 66 #[.val (.int p0), .val (.int p1), .val (.int p2), .val (.int p3), .val (.int ka), .val (.int kb), .val (.int la), .val (.int c0), .val (.int c1), .val (.int lb), .unset, .unset, .unset, .unset, .unset, .unset, .unset] [(.int c0)]) _
    refine Rch.st (fun _ k => XS.goto X0.here hx rfl (pc0 := 66) (pc' := 77) rfl (hb hby at_66) (by decide) (by decide) k) ?_
    show Rch p e below s₁ (mkF m 77 #[.val (.int p0), .val (.int p1), .val (.int p2), .val (.int p3), .val (.int ka), .val (.int kb), .val (.int la), .val (.int c0), .val (.int c1), .val (.int lb), .unset, .unset, .unset, .unset, .unset, .unset, .unset] [(.int c0)]) _
    refine Rch.st (fun _ k => XS.istore X0.here hx rfl (hb hby at_77) rfl (l' := #[.val (.int p0), .val (.int p1), .val (.int p2), .val (.int p3), .val (.int ka), .val (.int kb), .val (.int la), .val (.int c0), .val (.int c1), .val (.int lb), .val (.int c0), .unset, .unset, .unset, .unset, .unset, .unset]) rfl k) ?_
    show Rch p e below s₁ (mkF m 79 #[.val (.int p0), .val (.int p1), .val (.int p2), .val (.int p3), .val (.int ka), .val (.int kb), .val (.int la), .val (.int c0), .val (.int c1), .val (.int lb), .val (.int c0), .unset, .unset, .unset, .unset, .unset, .unset] []) _
    exact tail79 _ k0
set_option maxRecDepth 65536 in
set_option maxHeartbeats 40000000 in
theorem comes_1 {Post : Tables → Env → Array Value → State → Outcome → State → Prop} (hpost : ∀ tb e args s v u, (limb_1_1.after args s (.returned v) u = true ∧ limb_1_2.after args s (.returned v) u = true ∧ True) → FramedW s (.returned v) u (Jvm.fieldLocs frame_1_writes args s ++ Jvm.arrayLocs frame_1_arrays args s ++ Jvm.staticLocs frame_1_statics s) 24 1152 → Post tb e args s (.returned v) u) :
    ArmFor flags0 classFile x code maxLocals ret World_1 tables_1 room_1 Calls_1 rest_1 Pre_1 Post := by
  intro l hfl _ _ p e ha hc hk s m args below hf hA hF happ hP
  obtain ⟨hcalls, hrest, hpre⟩ := hP
  obtain ⟨-, -, -, hnamed, -, -, -, hat⟩ := (Spec.applies_iff hf).mp happ
  obtain ⟨hg, hn⟩ := and_e (Cond.before_iff.mp (show (Jvm.Cond.and given_1 narrow_1).before args s = true from hpre))
  obtain ⟨g_0, gr_0⟩ := and_e hg
  obtain ⟨g_1, gr_1⟩ := and_e gr_0
  obtain ⟨g_2, gr_2⟩ := and_e gr_1
  obtain ⟨g_3, gr_3⟩ := and_e gr_2
  obtain ⟨w0, w1, w2, w3, rfl⟩ : ∃ w0 w1 w2 w3 : Value, args = #[w0, w1, w2, w3] := by
    have hs : args.size = 4 := by simpa [Cond.value, given_1] using g_0
    obtain ⟨L⟩ := args
    match L, hs with
    | [w0, w1, w2, w3], _ => exact ⟨w0, w1, w2, w3, rfl⟩
  have hw := fun d (hd : d ∈ tables_1) => atoms_spec (ws := Jvm.Cond.code x code maxLocals ret :: tables_1) hat d (List.mem_cons_of_mem _ hd)
  obtain ⟨hsets, hown0⟩ := atoms_of _ (rest_1_c_eq ▸ (show rest_1_c.before _ s = true from hrest))
  have hfit : Fit s := fun {y c} hc i hi => by
    obtain ⟨ha, rfl⟩ := Array.getElem?_eq_some_iff.mp hc
    have q := List.all_eq_true.mp ((Array.all_eq_true_iff_forall_mem.mp hF) _ (Array.getElem_mem ha)) i (List.mem_range.mpr hi)
    simpa [Array.getElem?_eq_getElem hi] using q
  obtain ⟨v0, ev0⟩ := is_v g_1
  obtain rfl : w0 = (.int v0) := Option.some.inj ev0
  obtain ⟨v1, ev1⟩ := is_v g_2
  obtain rfl : w1 = (.int v1) := Option.some.inj ev1
  obtain ⟨v2, ev2⟩ := is_v g_3
  obtain rfl : w2 = (.int v2) := Option.some.inj ev2
  obtain ⟨v3, ev3⟩ := is_v gr_3
  obtain rfl : w3 = (.int v3) := Option.some.inj ev3
  obtain ⟨i7, e6⟩ := is_v (Cond.before_iff.mp (hsets _ (List.mem_of_getElem? (i := 1) rfl)))
  have n3 := not_v (Cond.before_iff.mp (hsets _ (List.mem_of_getElem? (i := 2) rfl)))
  have S8 : Sta s s.heap "java/lang/String" "COMPACT_STRINGS" "Z" (.int i7) := Sta.start e6 (Or.inl (hsets _ (List.mem_of_getElem? (i := 0) rfl)))
  have c13 : ¬ (i7 = (0 : Int32)) := gotF (Cond.eq_ints e6 (Term.int_eval (0))) n3
  have hcs : Cmp s s.heap := ⟨i7, S8, c13⟩
  have hH : CHv s EL s.vm s.heap := CHv.start (ew hw) (fun q hq => hcalls.1 q hq) (hsets _ (List.mem_of_getElem? (i := 2) rfl)) (wq hw 20 rfl) (wq hw 6 rfl)
  obtain ⟨n_0, r_0⟩ := and_e hn
  obtain ⟨n_1, r_1⟩ := and_e r_0
  obtain ⟨n_2, r_2⟩ := and_e r_1
  obtain ⟨n_3, r_3⟩ := and_e r_2
  obtain ⟨n_4, r_4⟩ := and_e r_3
  obtain ⟨n_5, r_5⟩ := and_e r_4
  obtain ⟨n_6, r_6⟩ := and_e r_5
  obtain ⟨n_7, r_7⟩ := and_e r_6
  obtain ⟨n_8, r_8⟩ := and_e r_7
  obtain ⟨n_9, r_9⟩ := and_e r_8
  obtain ⟨n_10, r_10⟩ := and_e r_9
  obtain ⟨n_11, r_11⟩ := and_e r_10
  obtain ⟨n_12, r_12⟩ := and_e r_11
  obtain ⟨n_13, r_13⟩ := and_e r_12
  obtain ⟨n_14, r_14⟩ := and_e r_13
  obtain ⟨n_15, r_15⟩ := and_e r_14
  obtain ⟨n_16, r_16⟩ := and_e r_15
  obtain ⟨n_17, r_17⟩ := and_e r_16
  obtain ⟨n_18, r_18⟩ := and_e r_17
  have n_19 := r_18
  obtain ⟨s0, es0⟩ := exa_v n_0
  have Ss0 := Sta.start es0 (Or.inr ⟨(wq hw 45 rfl), (wq hw 46 rfl)⟩)
  have Fo0 := fld_int es0 n_3
  obtain ⟨s1, es1⟩ := exa_v n_7
  have Ss1 := Sta.start es1 (Or.inr ⟨(wq hw 45 rfl), (wq hw 81 rfl)⟩)
  have Fo1 := fld_int es1 n_9
  obtain ⟨s2, es2⟩ := exa_v n_1
  have Ss2 := Sta.start es2 (Or.inr ⟨(wq hw 45 rfl), (wq hw 75 rfl)⟩)
  have Fo2 := fld_int es2 n_2
  obtain ⟨s3, es3⟩ := exa_v n_10
  have Ss3 := Sta.start es3 (Or.inr ⟨(wq hw 45 rfl), (wq hw 83 rfl)⟩)
  have Fo3 := fld_int es3 n_11
  obtain ⟨s4, es4⟩ := exa_v n_18
  have Ss4 := Sta.start es4 (Or.inr ⟨(wq hw 45 rfl), (wq hw 91 rfl)⟩)
  have Fo4 := fld_int es4 n_19
  obtain ⟨s5, es5⟩ := exa_v n_13
  have Ss5 := Sta.start es5 (Or.inr ⟨(wq hw 45 rfl), (wq hw 87 rfl)⟩)
  have Fo5 := fld_int es5 n_15
  obtain ⟨s6, es6⟩ := exa_v n_16
  have Ss6 := Sta.start es6 (Or.inr ⟨(wq hw 45 rfl), (wq hw 89 rfl)⟩)
  have Fo6 := fld_int es6 n_17
  obtain ⟨s7, es7⟩ := exa_v n_12
  have Ss7 := Sta.start es7 (Or.inr ⟨(wq hw 45 rfl), (wq hw 85 rfl)⟩)
  have Fo7 := fld_int es7 n_14
  obtain ⟨s8, es8⟩ := exa_v n_6
  have Ss8 := Sta.start es8 (Or.inr ⟨(wq hw 45 rfl), (wq hw 79 rfl)⟩)
  have Fo8 := fld_int es8 n_8
  obtain ⟨s9, es9⟩ := exa_v n_4
  have Ss9 := Sta.start es9 (Or.inr ⟨(wq hw 45 rfl), (wq hw 77 rfl)⟩)
  have Fo9 := fld_int es9 n_5
  have hB : Bg s s.heap (fun i => if i = 0 then s0 else if i = 1 then s1 else if i = 2 then s2 else if i = 3 then s3 else if i = 4 then s4 else if i = 5 then s5 else if i = 6 then s6 else if i = 7 then s7 else if i = 8 then s8 else s9) := ⟨Ss0, Ss1, Ss2, Ss3, Ss4, Ss5, Ss6, Ss7, Ss8, Ss9, Fo0, Fo1, Fo2, Fo3, Fo4, Fo5, Fo6, Fo7, Fo8, Fo9, hcs⟩
  obtain ⟨n, o, h1, h2, h3, _, L, rfl, ⟨rfl, N⟩, -, hq⟩ := rm_law l s _ hw tables_1 _ v0 v1 v2 v3 s.heap s.heap.size (Nat.le_refl _) hB p e ha hc hk s m _ below hf ((Spec.applies_iff_loose hf).mp happ).1 ⟨rfl, State.Warmed39.refl s, rfl, hH⟩ trivial
  refine ⟨n, _, h1, h2, h3, hpost _ _ _ _ _ _ ⟨Cond.after_iff.mpr rfl, Cond.after_iff.mpr (eq_i res_at (Term.int_eval (1)) rfl), trivial⟩ ⟨hq.1, hq.2.1, hq.2.2.1, (hq.2.2.2.sift fun y hy => Or.inr (N y hy)).mono (by decide) (by decide)⟩⟩
theorem main_1_1 : Claimed_1_1 := comes_1 fun _ _ _ _ _ _ h hF => ⟨h.1, hF⟩
theorem main_1_2 : Claimed_1_2 := comes_1 fun _ _ _ _ _ _ h hF => ⟨h.2.1, hF⟩
end Jvm.Pilot.@@N@@
namespace Jvm.Pilot.@@N@@
open Jvm Jvm.ClassFile Sem Op Lib Jvm.Free Jvm.Stand Jvm.Pilot.@@N@@.Jvm.D
/-! MADE BY PROGRAM (witnessworld.py) out of the Statement's table words and the real class files: 22 classes; the members and pool entries that the words name. The judged class is class 1, her method 3. -/
namespace start1
open Jvm.ClassFile
def u (s : String) : CpInfo := .utf8 (stringToUtf16 s)
/-- a pool by its gaps: so many unusable entries, then the entry; so many at the end -/
def gap : Nat → List CpInfo → List CpInfo
  | 0, r => r
  | n + 1, r => .unusable :: gap n r
def poolList (es : List (Nat × CpInfo)) (last : Nat) : List CpInfo := es.foldr (fun e r => gap e.1 (e.2 :: r)) (gap last [])
def pool (es : List (Nat × CpInfo)) (last : Nat) : Array CpInfo := ⟨poolList es last⟩
def fileOf (pool : Array CpInfo) (this : Nat) (attrs : Array Attribute := #[]) (ms : Array MethodInfo := #[]) (fl : Nat := 33) (sup : Nat := 0) (ifs : Array Nat := #[]) (fds : Array FieldInfo := #[]) : ClassFile where
  minorVersion := 0
  majorVersion := 65
  constantPool := pool
  accessFlags := fl
  thisClass := this
  superClass := sup
  interfaces := ifs
  fields := fds
  methods := ms
  attributes := attrs
def plain (name : String) (sup : Option ClassId) : Class where
  name := name
  kind := .ordinary
  loader := none
  accessFlags := 33
  super := sup
  interfaces := #[]
  cf := none
  fields := #[]
  methods := #[]
  instanceTypes := #[]
  staticTypes := #[]
  resolved := #[]
  callSites := []
  init := .initialized
  statics := none
  mirror := none

def pool0 : Array CpInfo := pool [(5, u "<init>"), (0, u "()V"), (1, .class_ 10), (1, u "java/lang/Object")] 113

def k0c0 : Code := { maxStack := 0, maxLocals := 1, code := object_method_1_code, exceptionTable := #[], attributes := #[] }
def k0m0 : Method := { name := "<init>", desc := "()V", sig := { parameters := [], returnType := none }, accessFlags := 1, code := some k0c0 }
/-- java/lang/Object -/
def k0 : Class := { plain "java/lang/Object" none with
  accessFlags := 33
  interfaces := #[]
  cf := some (fileOf pool0 8 #[] #[{ accessFlags := 1, nameIndex := 5, descriptorIndex := 6, attributes := #[] }] 33 0 #[] #[])
  fields := #[]
  methods := #[k0m0]
  instanceTypes := #[]
  staticTypes := #[]
  resolved := Array.replicate 124 none
  statics := none }

def pool1 : Array CpInfo := pool [(2, .class_ 4), (1, u "java/lang/Object"), (0, u "<init>"), (0, u "()V"), (0, .fieldref 8 9), (0, .class_ 10), (0, .nameAndType 11 12), (0, u "com/example/rhea/rhea/jq/Token$Kind"), (0, u "IDENTIFIER"), (0, u "Lcom/example/rhea/rhea/jq/Token$Kind;"), (0, .fieldref 8 14), (0, .nameAndType 15 12), (0, u "KEYWORD"), (0, .fieldref 8 17), (0, .nameAndType 18 12), (0, u "FIELD"), (0, .fieldref 8 20), (0, .nameAndType 21 12), (0, u "VARIABLE"), (0, .fieldref 8 23), (0, .nameAndType 24 12), (0, u "FORMAT"), (0, .fieldref 8 26), (0, .nameAndType 27 12), (0, u "NUMBER"), (0, .fieldref 8 29), (0, .nameAndType 30 12), (0, u "STRING"), (0, .fieldref 8 32), (0, .nameAndType 33 12), (0, u "SYMBOL"), (0, .fieldref 8 35), (0, .nameAndType 36 12), (0, u "INVALID"), (0, .fieldref 8 38), (0, .nameAndType 39 12), (0, u "END"), (0, .class_ 41), (0, u "java/lang/String"), (0, .methodref 40 43), (0, .nameAndType 5 44), (0, u "([C)V"), (0, .integer 65535), (0, .methodref 47 48), (0, .class_ 49), (0, .nameAndType 50 51), (0, u "com/example/rhea/rhea/jq/TokenIsPinLaw"), (0, u "str"), (0, u "(ICC)Ljava/lang/String;"), (0, .class_ 53), (0, u "com/example/rhea/rhea/jq/Token"), (0, .methodref 47 55), (0, .nameAndType 56 57), (0, u "kind"), (0, u "(I)Lcom/example/rhea/rhea/jq/Token$Kind;"), (0, .methodref 52 59), (0, .nameAndType 5 60), (0, u "(Lcom/example/rhea/rhea/jq/Token$Kind;Ljava/lang/String;ILjava/util/List;)V"), (0, .methodref 52 62), (0, .nameAndType 63 64), (0, u "is"), (0, u "(Lcom/example/rhea/rhea/jq/Token$Kind;Ljava/lang/String;)Z"), (3, u "law"), (0, u "(IIII)Z")] 4

def k1m0 : Method := { name := "<init>", desc := "()V", sig := { parameters := [], returnType := none }, accessFlags := 2, code := none }
def k1c1 : Code := { maxStack := 2, maxLocals := 1, code := method_2_code, exceptionTable := #[], attributes := #[] }
def k1m1 : Method := { name := "kind", desc := "(I)Lcom/example/rhea/rhea/jq/Token$Kind;", sig := { parameters := [.int], returnType := some (.object "com/example/rhea/rhea/jq/Token$Kind") }, accessFlags := 10, code := some k1c1 }
def k1c2 : Code := { maxStack := 6, maxLocals := 3, code := method_3_code, exceptionTable := #[], attributes := #[] }
def k1m2 : Method := { name := "str", desc := "(ICC)Ljava/lang/String;", sig := { parameters := [.int, .char, .char], returnType := some (.object "java/lang/String") }, accessFlags := 10, code := some k1c2 }
def k1c3 : Code := { maxStack := 6, maxLocals := 17, code := code, exceptionTable := #[], attributes := #[] }
def k1m3 : Method := { name := "law", desc := "(IIII)Z", sig := { parameters := [.int, .int, .int, .int], returnType := some .boolean }, accessFlags := 9, code := some k1c3 }
/-- com/example/rhea/rhea/jq/TokenIsPinLaw -/
def k1 : Class := { plain "com/example/rhea/rhea/jq/TokenIsPinLaw" (some 0) with
  accessFlags := 49
  interfaces := #[]
  cf := some (fileOf pool1 47 #[] #[{ accessFlags := 2, nameIndex := 5, descriptorIndex := 6, attributes := #[] }, { accessFlags := 10, nameIndex := 56, descriptorIndex := 57, attributes := #[] }, { accessFlags := 10, nameIndex := 50, descriptorIndex := 51, attributes := #[] }, { accessFlags := 9, nameIndex := 68, descriptorIndex := 69, attributes := #[] }] 49 2 #[] #[])
  fields := #[]
  methods := #[k1m0, k1m1, k1m2, k1m3]
  instanceTypes := #[]
  staticTypes := #[]
  resolved := Array.replicate 74 none
  statics := none }

def pool2 : Array CpInfo := pool [(1, .class_ 2), (0, u "java/io/Serializable"), (0, .class_ 4), (0, u "java/lang/Object")] 2

/-- java/io/Serializable -/
def k2 : Class := { plain "java/io/Serializable" (some 0) with
  accessFlags := 1537
  interfaces := #[]
  cf := some (fileOf pool2 1 #[] #[] 1537 3 #[] #[])
  fields := #[]
  methods := #[]
  instanceTypes := #[]
  staticTypes := #[]
  resolved := Array.replicate 7 none
  statics := none }

def pool3 : Array CpInfo := pool [(1, .class_ 2), (0, u "java/lang/Comparable"), (0, .class_ 4), (0, u "java/lang/Object")] 7

/-- java/lang/Comparable -/
def k3 : Class := { plain "java/lang/Comparable" (some 0) with
  accessFlags := 1537
  interfaces := #[]
  cf := some (fileOf pool3 1 #[] #[] 1537 3 #[] #[])
  fields := #[]
  methods := #[]
  instanceTypes := #[]
  staticTypes := #[]
  resolved := Array.replicate 12 none
  statics := none }

def pool4 : Array CpInfo := pool [(2, .class_ 4), (1, u "java/lang/CharSequence"), (42, .class_ 48), (0, u "java/lang/CharSequence$1CodePointIterator"), (10, .class_ 60), (0, u "java/lang/CharSequence$1CharIterator"), (5, .class_ 67), (0, u "java/lang/Object")] 63

/-- java/lang/CharSequence -/
def k4 : Class := { plain "java/lang/CharSequence" (some 0) with
  accessFlags := 1537
  interfaces := #[]
  cf := some (fileOf pool4 2 #[.nestMembers #[47, 59]] #[] 1537 66 #[] #[])
  fields := #[]
  methods := #[]
  instanceTypes := #[]
  staticTypes := #[]
  resolved := Array.replicate 131 none
  statics := none }

def pool5 : Array CpInfo := pool [(1, .class_ 2), (0, u "java/lang/constant/Constable"), (0, .class_ 4), (0, u "java/lang/Object")] 6

/-- java/lang/constant/Constable -/
def k5 : Class := { plain "java/lang/constant/Constable" (some 0) with
  accessFlags := 1537
  interfaces := #[]
  cf := some (fileOf pool5 1 #[] #[] 1537 3 #[] #[])
  fields := #[]
  methods := #[]
  instanceTypes := #[]
  staticTypes := #[]
  resolved := Array.replicate 11 none
  statics := none }

def pool6 : Array CpInfo := pool [(1, .class_ 2), (0, u "java/lang/constant/ConstantDesc"), (0, .class_ 4), (0, u "java/lang/Object")] 32

/-- java/lang/constant/ConstantDesc -/
def k6 : Class := { plain "java/lang/constant/ConstantDesc" (some 0) with
  accessFlags := 1537
  interfaces := #[]
  cf := some (fileOf pool6 1 #[] #[] 1537 3 #[] #[])
  fields := #[]
  methods := #[]
  instanceTypes := #[]
  staticTypes := #[]
  resolved := Array.replicate 37 none
  statics := none }

def pool7 : Array CpInfo := pool [(1, .methodref 2 3), (0, .class_ 4), (0, .nameAndType 5 6), (0, u "java/lang/Object"), (0, u "<init>"), (0, u "()V"), (0, .string 8), (0, u ""), (0, .fieldref 10 11), (0, .class_ 12), (0, .nameAndType 13 14), (0, u "java/lang/String"), (0, u "value"), (0, u "[B"), (0, .fieldref 10 16), (0, .nameAndType 17 18), (0, u "coder"), (0, u "B"), (2, u "hash"), (0, u "I"), (2, u "hashIsZero"), (0, u "Z"), (0, .methodref 10 28), (0, .nameAndType 5 29), (0, u "([CIILjava/lang/Void;)V"), (8, .fieldref 10 39), (0, .nameAndType 40 26), (0, u "COMPACT_STRINGS"), (1, .class_ 44), (1, u "java/lang/StringUTF16"), (0, u "compress"), (1, .methodref 42 48), (0, .nameAndType 49 50), (0, u "coderFromArrayLen"), (0, u "([BI)B"), (56, .class_ 109), (1, u "java/lang/StringLatin1"), (67, .methodref 42 178), (0, .nameAndType 45 179), (0, u "([CII)[B"), (361, .methodref 107 542), (0, .nameAndType 543 544), (0, u "equals"), (0, u "([B[B)Z"), (28, u "(Ljava/lang/Object;)Z"), (1, .class_ 576), (0, u "java/lang/CharSequence"), (22, u "CASE_INSENSITIVE_ORDER"), (0, u "Ljava/util/Comparator;"), (409, u "([C)V"), (90, u "serialPersistentFields"), (0, u "[Ljava/io/ObjectStreamField;"), (0, .class_ 1104), (0, u "java/lang/String$CaseInsensitiveComparator"), (1, .class_ 1107), (0, u "java/io/Serializable"), (0, .class_ 1109), (0, u "java/lang/Comparable"), (0, .class_ 1111), (0, u "java/lang/constant/Constable"), (0, .class_ 1113), (0, u "java/lang/constant/ConstantDesc"), (2, u "serialVersionUID"), (0, u "J"), (3, u "REPL"), (0, u "C"), (2, u "LATIN1"), (1, u "UTF16")] 323

def k7m0 : Method := { name := "<init>", desc := "()V", sig := { parameters := [], returnType := none }, accessFlags := 1, code := none }
def k7c1 : Code := { maxStack := 5, maxLocals := 2, code := jdk_42_method_3_code, exceptionTable := #[], attributes := #[] }
def k7m1 : Method := { name := "<init>", desc := "([C)V", sig := { parameters := [(.array .char)], returnType := none }, accessFlags := 1, code := some k7c1 }
def k7c2 : Code := { maxStack := 2, maxLocals := 3, code := jdk_42_method_66_code, exceptionTable := #[], attributes := #[] }
def k7m2 : Method := { name := "equals", desc := "(Ljava/lang/Object;)Z", sig := { parameters := [(.object "java/lang/Object")], returnType := some .boolean }, accessFlags := 1, code := some k7c2 }
def k7c3 : Code := { maxStack := 4, maxLocals := 6, code := jdk_42_method_149_code, exceptionTable := #[], attributes := #[] }
def k7m3 : Method := { name := "<init>", desc := "([CIILjava/lang/Void;)V", sig := { parameters := [(.array .char), .int, .int, (.object "java/lang/Void")], returnType := none }, accessFlags := 2, code := some k7c3 }
/-- java/lang/String -/
def k7 : Class := { plain "java/lang/String" (some 0) with
  accessFlags := 49
  interfaces := #[2, 3, 4, 5, 6]
  cf := some (fileOf pool7 10 #[.nestMembers #[1103]] #[{ accessFlags := 1, nameIndex := 5, descriptorIndex := 6, attributes := #[] }, { accessFlags := 1, nameIndex := 5, descriptorIndex := 1010, attributes := #[] }, { accessFlags := 1, nameIndex := 543, descriptorIndex := 573, attributes := #[] }, { accessFlags := 2, nameIndex := 5, descriptorIndex := 29, attributes := #[] }] 49 2 #[1106, 1108, 575, 1110, 1112] #[{ accessFlags := 18, nameIndex := 13, descriptorIndex := 14, attributes := #[] }, { accessFlags := 18, nameIndex := 17, descriptorIndex := 18, attributes := #[] }, { accessFlags := 2, nameIndex := 21, descriptorIndex := 22, attributes := #[] }, { accessFlags := 2, nameIndex := 25, descriptorIndex := 26, attributes := #[] }, { accessFlags := 26, nameIndex := 1116, descriptorIndex := 1117, attributes := #[] }, { accessFlags := 24, nameIndex := 40, descriptorIndex := 26, attributes := #[] }, { accessFlags := 26, nameIndex := 1101, descriptorIndex := 1102, attributes := #[] }, { accessFlags := 26, nameIndex := 1121, descriptorIndex := 1122, attributes := #[] }, { accessFlags := 25, nameIndex := 599, descriptorIndex := 600, attributes := #[] }, { accessFlags := 24, nameIndex := 1125, descriptorIndex := 18, attributes := #[] }, { accessFlags := 24, nameIndex := 1127, descriptorIndex := 18, attributes := #[] }])
  fields := #[{ name := "value", type := (.array .byte), accessFlags := 18, slot := 0, constantValue := 0 }, { name := "coder", type := .byte, accessFlags := 18, slot := 1, constantValue := 0 }, { name := "hash", type := .int, accessFlags := 2, slot := 2, constantValue := 0 }, { name := "hashIsZero", type := .boolean, accessFlags := 2, slot := 3, constantValue := 0 }, { name := "serialVersionUID", type := .long, accessFlags := 26, slot := 0, constantValue := 0 }, { name := "COMPACT_STRINGS", type := .boolean, accessFlags := 24, slot := 1, constantValue := 0 }, { name := "serialPersistentFields", type := (.array (.object "java/io/ObjectStreamField")), accessFlags := 26, slot := 2, constantValue := 0 }, { name := "REPL", type := .char, accessFlags := 26, slot := 3, constantValue := 0 }, { name := "CASE_INSENSITIVE_ORDER", type := (.object "java/util/Comparator"), accessFlags := 25, slot := 4, constantValue := 0 }, { name := "LATIN1", type := .byte, accessFlags := 24, slot := 5, constantValue := 0 }, { name := "UTF16", type := .byte, accessFlags := 24, slot := 6, constantValue := 0 }]
  methods := #[k7m0, k7m1, k7m2, k7m3]
  instanceTypes := #[(.array .byte), .byte, .int, .boolean]
  staticTypes := #[.long, .boolean, (.array (.object "java/io/ObjectStreamField")), .char, (.object "java/util/Comparator"), .byte, .byte]
  resolved := Array.replicate 1451 none
  statics := some 0 }

def pool8 : Array CpInfo := pool [(6, .class_ 8), (1, u "java/lang/Object"), (0, u "<init>"), (0, u "()V"), (1, .class_ 14), (1, u "java/lang/StringUTF16"), (31, u "$assertionsDisabled"), (0, u "Z"), (13, u "HI_BYTE_SHIFT"), (0, u "I"), (2, u "LO_BYTE_SHIFT"), (49, .methodref 12 116), (0, .nameAndType 117 118), (0, u "compress"), (0, u "([CI[BII)I"), (3, u "([CII)[B"), (138, u "coderFromArrayLen"), (0, u "([BI)B"), (106, .class_ 371), (1, u "java/lang/StringUTF16$LinesSpliterator"), (58, u "MAX_LENGTH"), (196, .class_ 628), (0, u "java/lang/StringUTF16$CodePointsSpliterator"), (0, .class_ 630), (0, u "java/lang/StringUTF16$CharsSpliterator")] 4

def k8m0 : Method := { name := "<init>", desc := "()V", sig := { parameters := [], returnType := none }, accessFlags := 0, code := none }
def k8c1 : Code := { maxStack := 2, maxLocals := 2, code := jdk_52_method_15_code, exceptionTable := #[], attributes := #[] }
def k8m1 : Method := { name := "coderFromArrayLen", desc := "([BI)B", sig := { parameters := [(.array .byte), .int], returnType := some .byte }, accessFlags := 8, code := some k8c1 }
def k8c2 : Code := { maxStack := 5, maxLocals := 6, code := jdk_52_method_16_code, exceptionTable := #[], attributes := #[] }
def k8m2 : Method := { name := "compress", desc := "([CII)[B", sig := { parameters := [(.array .char), .int, .int], returnType := some (.array .byte) }, accessFlags := 9, code := some k8c2 }
def k8c3 : Code := { maxStack := 3, maxLocals := 7, code := jdk_52_method_21_code, exceptionTable := #[], attributes := #[] }
def k8m3 : Method := { name := "compress", desc := "([CI[BII)I", sig := { parameters := [(.array .char), .int, (.array .byte), .int, .int], returnType := some .int }, accessFlags := 9, code := some k8c3 }
/-- java/lang/StringUTF16 -/
def k8 : Class := { plain "java/lang/StringUTF16" (some 0) with
  accessFlags := 48
  interfaces := #[]
  cf := some (fileOf pool8 12 #[.nestMembers #[627, 629, 369]] #[{ accessFlags := 0, nameIndex := 9, descriptorIndex := 10, attributes := #[] }, { accessFlags := 8, nameIndex := 261, descriptorIndex := 262, attributes := #[] }, { accessFlags := 9, nameIndex := 117, descriptorIndex := 122, attributes := #[] }, { accessFlags := 9, nameIndex := 117, descriptorIndex := 118, attributes := #[] }] 48 6 #[] #[{ accessFlags := 26, nameIndex := 61, descriptorIndex := 62, attributes := #[] }, { accessFlags := 26, nameIndex := 65, descriptorIndex := 62, attributes := #[] }, { accessFlags := 24, nameIndex := 430, descriptorIndex := 62, attributes := #[] }, { accessFlags := 4120, nameIndex := 46, descriptorIndex := 47, attributes := #[] }])
  fields := #[{ name := "HI_BYTE_SHIFT", type := .int, accessFlags := 26, slot := 0, constantValue := 0 }, { name := "LO_BYTE_SHIFT", type := .int, accessFlags := 26, slot := 1, constantValue := 0 }, { name := "MAX_LENGTH", type := .int, accessFlags := 24, slot := 2, constantValue := 0 }, { name := "$assertionsDisabled", type := .boolean, accessFlags := 4120, slot := 3, constantValue := 0 }]
  methods := #[k8m0, k8m1, k8m2, k8m3]
  instanceTypes := #[]
  staticTypes := #[.int, .int, .int, .boolean]
  resolved := Array.replicate 635 none
  statics := none }

def pool9 : Array CpInfo := pool [(1, .methodref 2 3), (0, .class_ 4), (0, .nameAndType 5 6), (0, u "java/lang/Object"), (0, u "<init>"), (0, u "()V"), (0, .fieldref 8 9), (0, .class_ 10), (0, .nameAndType 11 12), (0, u "com/example/rhea/rhea/jq/Token"), (0, u "kind"), (0, u "Lcom/example/rhea/rhea/jq/Token$Kind;"), (0, .fieldref 8 14), (0, .nameAndType 15 16), (0, u "text"), (0, u "Ljava/lang/String;"), (0, .fieldref 8 18), (0, .nameAndType 19 20), (0, u "offset"), (0, u "I"), (0, .fieldref 8 22), (0, .nameAndType 23 24), (0, u "pieces"), (0, u "Ljava/util/List;"), (0, .methodref 26 27), (0, .class_ 28), (0, .nameAndType 29 30), (0, u "java/lang/String"), (0, u "equals"), (0, u "(Ljava/lang/Object;)Z"), (1, .class_ 34), (1, u "com/example/rhea/rhea/jq/Token$Kind"), (3, u "is"), (0, u "(Lcom/example/rhea/rhea/jq/Token$Kind;Ljava/lang/String;)Z"), (20, u "(Lcom/example/rhea/rhea/jq/Token$Kind;Ljava/lang/String;ILjava/util/List;)V"), (12, .class_ 74), (0, u "com/example/rhea/rhea/jq/Token$Piece")] 23

def k9c0 : Code := { maxStack := 2, maxLocals := 5, code := prog_8_method_1_code, exceptionTable := #[], attributes := #[] }
def k9m0 : Method := { name := "<init>", desc := "(Lcom/example/rhea/rhea/jq/Token$Kind;Ljava/lang/String;ILjava/util/List;)V", sig := { parameters := [(.object "com/example/rhea/rhea/jq/Token$Kind"), (.object "java/lang/String"), .int, (.object "java/util/List")], returnType := none }, accessFlags := 0, code := some k9c0 }
def k9c1 : Code := { maxStack := 2, maxLocals := 3, code := prog_8_method_2_code, exceptionTable := #[], attributes := #[] }
def k9m1 : Method := { name := "is", desc := "(Lcom/example/rhea/rhea/jq/Token$Kind;Ljava/lang/String;)Z", sig := { parameters := [(.object "com/example/rhea/rhea/jq/Token$Kind"), (.object "java/lang/String")], returnType := some .boolean }, accessFlags := 0, code := some k9c1 }
/-- com/example/rhea/rhea/jq/Token -/
def k9 : Class := { plain "com/example/rhea/rhea/jq/Token" (some 0) with
  accessFlags := 32
  interfaces := #[]
  cf := some (fileOf pool9 8 #[.nestMembers #[73, 32]] #[{ accessFlags := 0, nameIndex := 5, descriptorIndex := 60, attributes := #[] }, { accessFlags := 0, nameIndex := 38, descriptorIndex := 39, attributes := #[] }] 32 2 #[] #[{ accessFlags := 16, nameIndex := 11, descriptorIndex := 12, attributes := #[] }, { accessFlags := 16, nameIndex := 15, descriptorIndex := 16, attributes := #[] }, { accessFlags := 16, nameIndex := 19, descriptorIndex := 20, attributes := #[] }, { accessFlags := 16, nameIndex := 23, descriptorIndex := 24, attributes := #[] }])
  fields := #[{ name := "kind", type := (.object "com/example/rhea/rhea/jq/Token$Kind"), accessFlags := 16, slot := 0, constantValue := 0 }, { name := "text", type := (.object "java/lang/String"), accessFlags := 16, slot := 1, constantValue := 0 }, { name := "offset", type := .int, accessFlags := 16, slot := 2, constantValue := 0 }, { name := "pieces", type := (.object "java/util/List"), accessFlags := 16, slot := 3, constantValue := 0 }]
  methods := #[k9m0, k9m1]
  instanceTypes := #[(.object "com/example/rhea/rhea/jq/Token$Kind"), (.object "java/lang/String"), .int, (.object "java/util/List")]
  staticTypes := #[]
  resolved := Array.replicate 98 none
  statics := none }

def pool10 : Array CpInfo := pool [(2, .class_ 4), (1, u "java/lang/Enum"), (0, u "name"), (0, u "Ljava/lang/String;"), (2, u "ordinal"), (0, u "I"), (1, .class_ 14), (1, u "java/lang/Object"), (4, u "hash"), (86, .class_ 108), (1, u "java/lang/Enum$EnumDesc"), (2, .class_ 112), (0, u "java/lang/constant/Constable"), (0, .class_ 114), (0, u "java/lang/Comparable"), (0, .class_ 116), (0, u "java/io/Serializable")] 87

/-- java/lang/Enum -/
def k10 : Class := { plain "java/lang/Enum" (some 0) with
  accessFlags := 1057
  interfaces := #[5, 3, 2]
  cf := some (fileOf pool10 2 #[.nestMembers #[106]] #[] 1057 12 #[111, 113, 115] #[{ accessFlags := 18, nameIndex := 5, descriptorIndex := 6, attributes := #[] }, { accessFlags := 18, nameIndex := 9, descriptorIndex := 10, attributes := #[] }, { accessFlags := 2, nameIndex := 19, descriptorIndex := 10, attributes := #[] }])
  fields := #[{ name := "name", type := (.object "java/lang/String"), accessFlags := 18, slot := 0, constantValue := 0 }, { name := "ordinal", type := .int, accessFlags := 18, slot := 1, constantValue := 0 }, { name := "hash", type := .int, accessFlags := 2, slot := 2, constantValue := 0 }]
  methods := #[]
  instanceTypes := #[(.object "java/lang/String"), .int, .int]
  staticTypes := #[]
  resolved := Array.replicate 204 none
  statics := none }

def pool11 : Array CpInfo := pool [(1, .class_ 2), (0, u "com/example/rhea/rhea/jq/Token$Kind"), (2, u "IDENTIFIER"), (0, u "Lcom/example/rhea/rhea/jq/Token$Kind;"), (2, u "KEYWORD"), (2, u "FIELD"), (2, u "VARIABLE"), (2, u "FORMAT"), (2, u "NUMBER"), (2, u "STRING"), (2, u "SYMBOL"), (2, u "INVALID"), (2, u "END"), (2, u "$VALUES"), (0, u "[Lcom/example/rhea/rhea/jq/Token$Kind;"), (6, .class_ 46), (1, u "java/lang/Enum"), (33, .class_ 81), (0, u "com/example/rhea/rhea/jq/Token")] 2

/-- com/example/rhea/rhea/jq/Token$Kind -/
def k11 : Class := { plain "com/example/rhea/rhea/jq/Token$Kind" (some 10) with
  accessFlags := 16432
  interfaces := #[]
  cf := some (fileOf pool11 1 #[.nestHost 80] #[] 16432 44 #[] #[{ accessFlags := 16409, nameIndex := 5, descriptorIndex := 6, attributes := #[] }, { accessFlags := 16409, nameIndex := 9, descriptorIndex := 6, attributes := #[] }, { accessFlags := 16409, nameIndex := 12, descriptorIndex := 6, attributes := #[] }, { accessFlags := 16409, nameIndex := 15, descriptorIndex := 6, attributes := #[] }, { accessFlags := 16409, nameIndex := 18, descriptorIndex := 6, attributes := #[] }, { accessFlags := 16409, nameIndex := 21, descriptorIndex := 6, attributes := #[] }, { accessFlags := 16409, nameIndex := 24, descriptorIndex := 6, attributes := #[] }, { accessFlags := 16409, nameIndex := 27, descriptorIndex := 6, attributes := #[] }, { accessFlags := 16409, nameIndex := 30, descriptorIndex := 6, attributes := #[] }, { accessFlags := 16409, nameIndex := 33, descriptorIndex := 6, attributes := #[] }, { accessFlags := 4122, nameIndex := 36, descriptorIndex := 37, attributes := #[] }])
  fields := #[{ name := "IDENTIFIER", type := (.object "com/example/rhea/rhea/jq/Token$Kind"), accessFlags := 16409, slot := 0, constantValue := 0 }, { name := "KEYWORD", type := (.object "com/example/rhea/rhea/jq/Token$Kind"), accessFlags := 16409, slot := 1, constantValue := 0 }, { name := "FIELD", type := (.object "com/example/rhea/rhea/jq/Token$Kind"), accessFlags := 16409, slot := 2, constantValue := 0 }, { name := "VARIABLE", type := (.object "com/example/rhea/rhea/jq/Token$Kind"), accessFlags := 16409, slot := 3, constantValue := 0 }, { name := "FORMAT", type := (.object "com/example/rhea/rhea/jq/Token$Kind"), accessFlags := 16409, slot := 4, constantValue := 0 }, { name := "NUMBER", type := (.object "com/example/rhea/rhea/jq/Token$Kind"), accessFlags := 16409, slot := 5, constantValue := 0 }, { name := "STRING", type := (.object "com/example/rhea/rhea/jq/Token$Kind"), accessFlags := 16409, slot := 6, constantValue := 0 }, { name := "SYMBOL", type := (.object "com/example/rhea/rhea/jq/Token$Kind"), accessFlags := 16409, slot := 7, constantValue := 0 }, { name := "INVALID", type := (.object "com/example/rhea/rhea/jq/Token$Kind"), accessFlags := 16409, slot := 8, constantValue := 0 }, { name := "END", type := (.object "com/example/rhea/rhea/jq/Token$Kind"), accessFlags := 16409, slot := 9, constantValue := 0 }, { name := "$VALUES", type := (.array (.object "com/example/rhea/rhea/jq/Token$Kind")), accessFlags := 4122, slot := 10, constantValue := 0 }]
  methods := #[]
  instanceTypes := #[(.object "java/lang/String"), .int, .int]
  staticTypes := #[(.object "com/example/rhea/rhea/jq/Token$Kind"), (.object "com/example/rhea/rhea/jq/Token$Kind"), (.object "com/example/rhea/rhea/jq/Token$Kind"), (.object "com/example/rhea/rhea/jq/Token$Kind"), (.object "com/example/rhea/rhea/jq/Token$Kind"), (.object "com/example/rhea/rhea/jq/Token$Kind"), (.object "com/example/rhea/rhea/jq/Token$Kind"), (.object "com/example/rhea/rhea/jq/Token$Kind"), (.object "com/example/rhea/rhea/jq/Token$Kind"), (.object "com/example/rhea/rhea/jq/Token$Kind"), (.array (.object "com/example/rhea/rhea/jq/Token$Kind"))]
  resolved := Array.replicate 84 none
  statics := some 1 }

def pool12 : Array CpInfo := pool [(4, .class_ 6), (1, u "java/lang/Object"), (0, u "<init>"), (0, u "()V"), (5, .class_ 16), (1, u "java/lang/StringLatin1"), (104, u "$assertionsDisabled"), (0, u "Z"), (98, .class_ 223), (1, u "java/lang/StringLatin1$LinesSpliterator"), (57, u "equals"), (0, u "([B[B)Z"), (107, .class_ 391), (0, u "java/lang/StringLatin1$CharsSpliterator")] 3

def k12m0 : Method := { name := "<init>", desc := "()V", sig := { parameters := [], returnType := none }, accessFlags := 0, code := none }
def k12c1 : Code := { maxStack := 3, maxLocals := 3, code := jdk_43_method_13_code, exceptionTable := #[], attributes := #[] }
def k12m1 : Method := { name := "equals", desc := "([B[B)Z", sig := { parameters := [(.array .byte), (.array .byte)], returnType := some .boolean }, accessFlags := 9, code := some k12c1 }
/-- java/lang/StringLatin1 -/
def k12 : Class := { plain "java/lang/StringLatin1" (some 0) with
  accessFlags := 48
  interfaces := #[]
  cf := some (fileOf pool12 14 #[.nestMembers #[390, 221]] #[{ accessFlags := 0, nameIndex := 7, descriptorIndex := 8, attributes := #[] }, { accessFlags := 9, nameIndex := 281, descriptorIndex := 282, attributes := #[] }] 48 4 #[] #[{ accessFlags := 4120, nameIndex := 121, descriptorIndex := 122, attributes := #[] }])
  fields := #[{ name := "$assertionsDisabled", type := .boolean, accessFlags := 4120, slot := 0, constantValue := 0 }]
  methods := #[k12m0, k12m1]
  instanceTypes := #[]
  staticTypes := #[.boolean]
  resolved := Array.replicate 395 none
  statics := none }

def pool13 : Array CpInfo := pool [(2, .class_ 4), (1, u "java/lang/Object"), (0, u "<init>"), (0, u "()V"), (17, .class_ 26), (1, u "jdk/internal/util/Preconditions"), (28, .class_ 56), (0, u "jdk/internal/util/Preconditions$4"), (57, .class_ 115), (0, u "jdk/internal/util/Preconditions$1"), (7, u "SIOOBE_FORMATTER"), (0, u "Ljava/util/function/BiFunction;"), (0, .class_ 126), (0, u "jdk/internal/util/Preconditions$2"), (3, u "AIOOBE_FORMATTER"), (0, .class_ 132), (0, u "jdk/internal/util/Preconditions$3"), (3, u "IOOBE_FORMATTER")] 57

def k13m0 : Method := { name := "<init>", desc := "()V", sig := { parameters := [], returnType := none }, accessFlags := 1, code := none }
/-- jdk/internal/util/Preconditions -/
def k13 : Class := { plain "jdk/internal/util/Preconditions" (some 0) with
  accessFlags := 33
  interfaces := #[]
  cf := some (fileOf pool13 24 #[.nestMembers #[55, 131, 125, 114]] #[{ accessFlags := 1, nameIndex := 5, descriptorIndex := 6, attributes := #[] }] 33 2 #[] #[{ accessFlags := 25, nameIndex := 123, descriptorIndex := 124, attributes := #[] }, { accessFlags := 25, nameIndex := 130, descriptorIndex := 124, attributes := #[] }, { accessFlags := 25, nameIndex := 136, descriptorIndex := 124, attributes := #[] }])
  fields := #[{ name := "SIOOBE_FORMATTER", type := (.object "java/util/function/BiFunction"), accessFlags := 25, slot := 0, constantValue := 0 }, { name := "AIOOBE_FORMATTER", type := (.object "java/util/function/BiFunction"), accessFlags := 25, slot := 1, constantValue := 0 }, { name := "IOOBE_FORMATTER", type := (.object "java/util/function/BiFunction"), accessFlags := 25, slot := 2, constantValue := 0 }]
  methods := #[k13m0]
  instanceTypes := #[]
  staticTypes := #[(.object "java/util/function/BiFunction"), (.object "java/util/function/BiFunction"), (.object "java/util/function/BiFunction")]
  resolved := Array.replicate 194 none
  statics := some 2 }

def pool14 : Array CpInfo := pool [(9, u "<init>"), (6, .class_ 18), (1, u "java/lang/Object"), (0, u "()V"), (1, .class_ 23), (1, u "jdk/internal/util/ArraysSupport"), (0, u "LOG2_ARRAY_LONG_INDEX_SCALE"), (0, u "I"), (2, u "U"), (0, u "Ljdk/internal/misc/Unsafe;"), (8, u "BIG_ENDIAN"), (0, u "Z"), (8, u "LOG2_BYTE_BIT_SIZE"), (4, u "LOG2_ARRAY_INT_INDEX_SCALE"), (54, u "JLA"), (0, u "Ljdk/internal/access/JavaLangAccess;"), (11, u "LOG2_ARRAY_BOOLEAN_INDEX_SCALE"), (9, u "LOG2_ARRAY_BYTE_INDEX_SCALE"), (5, u "LOG2_ARRAY_CHAR_INDEX_SCALE"), (5, u "LOG2_ARRAY_SHORT_INDEX_SCALE"), (18, u "LOG2_ARRAY_FLOAT_INDEX_SCALE"), (24, u "LOG2_ARRAY_DOUBLE_INDEX_SCALE"), (89, u "T_BOOLEAN"), (2, u "T_CHAR"), (1, u "T_FLOAT"), (1, u "T_DOUBLE"), (1, u "T_BYTE"), (1, u "T_SHORT"), (1, u "T_INT"), (1, u "T_LONG"), (1, u "SOFT_MAX_ARRAY_LENGTH")] 83

def k14m0 : Method := { name := "<init>", desc := "()V", sig := { parameters := [], returnType := none }, accessFlags := 2, code := none }
/-- jdk/internal/util/ArraysSupport -/
def k14 : Class := { plain "jdk/internal/util/ArraysSupport" (some 0) with
  accessFlags := 33
  interfaces := #[]
  cf := some (fileOf pool14 21 #[] #[{ accessFlags := 2, nameIndex := 9, descriptorIndex := 19, attributes := #[] }] 33 16 #[] #[{ accessFlags := 24, nameIndex := 28, descriptorIndex := 29, attributes := #[] }, { accessFlags := 26, nameIndex := 38, descriptorIndex := 39, attributes := #[] }, { accessFlags := 25, nameIndex := 121, descriptorIndex := 25, attributes := #[] }, { accessFlags := 25, nameIndex := 131, descriptorIndex := 25, attributes := #[] }, { accessFlags := 25, nameIndex := 137, descriptorIndex := 25, attributes := #[] }, { accessFlags := 25, nameIndex := 143, descriptorIndex := 25, attributes := #[] }, { accessFlags := 25, nameIndex := 53, descriptorIndex := 25, attributes := #[] }, { accessFlags := 25, nameIndex := 24, descriptorIndex := 25, attributes := #[] }, { accessFlags := 25, nameIndex := 162, descriptorIndex := 25, attributes := #[] }, { accessFlags := 25, nameIndex := 187, descriptorIndex := 25, attributes := #[] }, { accessFlags := 26, nameIndex := 48, descriptorIndex := 25, attributes := #[] }, { accessFlags := 25, nameIndex := 277, descriptorIndex := 25, attributes := #[] }, { accessFlags := 25, nameIndex := 280, descriptorIndex := 25, attributes := #[] }, { accessFlags := 25, nameIndex := 282, descriptorIndex := 25, attributes := #[] }, { accessFlags := 25, nameIndex := 284, descriptorIndex := 25, attributes := #[] }, { accessFlags := 25, nameIndex := 286, descriptorIndex := 25, attributes := #[] }, { accessFlags := 25, nameIndex := 288, descriptorIndex := 25, attributes := #[] }, { accessFlags := 25, nameIndex := 290, descriptorIndex := 25, attributes := #[] }, { accessFlags := 25, nameIndex := 292, descriptorIndex := 25, attributes := #[] }, { accessFlags := 26, nameIndex := 108, descriptorIndex := 109, attributes := #[] }, { accessFlags := 25, nameIndex := 294, descriptorIndex := 25, attributes := #[] }])
  fields := #[{ name := "U", type := (.object "jdk/internal/misc/Unsafe"), accessFlags := 24, slot := 0, constantValue := 0 }, { name := "BIG_ENDIAN", type := .boolean, accessFlags := 26, slot := 1, constantValue := 0 }, { name := "LOG2_ARRAY_BOOLEAN_INDEX_SCALE", type := .int, accessFlags := 25, slot := 2, constantValue := 0 }, { name := "LOG2_ARRAY_BYTE_INDEX_SCALE", type := .int, accessFlags := 25, slot := 3, constantValue := 0 }, { name := "LOG2_ARRAY_CHAR_INDEX_SCALE", type := .int, accessFlags := 25, slot := 4, constantValue := 0 }, { name := "LOG2_ARRAY_SHORT_INDEX_SCALE", type := .int, accessFlags := 25, slot := 5, constantValue := 0 }, { name := "LOG2_ARRAY_INT_INDEX_SCALE", type := .int, accessFlags := 25, slot := 6, constantValue := 0 }, { name := "LOG2_ARRAY_LONG_INDEX_SCALE", type := .int, accessFlags := 25, slot := 7, constantValue := 0 }, { name := "LOG2_ARRAY_FLOAT_INDEX_SCALE", type := .int, accessFlags := 25, slot := 8, constantValue := 0 }, { name := "LOG2_ARRAY_DOUBLE_INDEX_SCALE", type := .int, accessFlags := 25, slot := 9, constantValue := 0 }, { name := "LOG2_BYTE_BIT_SIZE", type := .int, accessFlags := 26, slot := 10, constantValue := 0 }, { name := "T_BOOLEAN", type := .int, accessFlags := 25, slot := 11, constantValue := 0 }, { name := "T_CHAR", type := .int, accessFlags := 25, slot := 12, constantValue := 0 }, { name := "T_FLOAT", type := .int, accessFlags := 25, slot := 13, constantValue := 0 }, { name := "T_DOUBLE", type := .int, accessFlags := 25, slot := 14, constantValue := 0 }, { name := "T_BYTE", type := .int, accessFlags := 25, slot := 15, constantValue := 0 }, { name := "T_SHORT", type := .int, accessFlags := 25, slot := 16, constantValue := 0 }, { name := "T_INT", type := .int, accessFlags := 25, slot := 17, constantValue := 0 }, { name := "T_LONG", type := .int, accessFlags := 25, slot := 18, constantValue := 0 }, { name := "JLA", type := (.object "jdk/internal/access/JavaLangAccess"), accessFlags := 26, slot := 19, constantValue := 0 }, { name := "SOFT_MAX_ARRAY_LENGTH", type := .int, accessFlags := 25, slot := 20, constantValue := 0 }]
  methods := #[k14m0]
  instanceTypes := #[]
  staticTypes := #[(.object "jdk/internal/misc/Unsafe"), .boolean, .int, .int, .int, .int, .int, .int, .int, .int, .int, .int, .int, .int, .int, .int, .int, .int, .int, (.object "jdk/internal/access/JavaLangAccess"), .int]
  resolved := Array.replicate 378 none
  statics := none }

def pool15 : Array CpInfo := pool [(1, u "java/lang/Cloneable"), (0, .class_ 1), (0, u "java/lang/Object"), (0, .class_ 3)] 3

/-- java/lang/Cloneable -/
def k15 : Class := { plain "java/lang/Cloneable" (some 0) with
  accessFlags := 1537
  interfaces := #[]
  cf := some (fileOf pool15 2 #[] #[] 1537 4 #[] #[])
  fields := #[]
  methods := #[]
  instanceTypes := #[]
  staticTypes := #[]
  resolved := Array.replicate 8 none
  statics := none }

/-- the primitive byte -/
def k16 : Class := { plain "byte" none with kind := .primitive 'B', accessFlags := 0x411 }
/-- [B -/
def k17 : Class := { plain "[B" (some 0) with kind := .array 16 .byte, interfaces := #[15, 2], accessFlags := 1041 }

/-- the primitive char -/
def k18 : Class := { plain "char" none with kind := .primitive 'C', accessFlags := 0x411 }
/-- [C -/
def k19 : Class := { plain "[C" (some 0) with kind := .array 18 .char, interfaces := #[15, 2], accessFlags := 1041 }

/-- the primitive int -/
def k20 : Class := { plain "int" none with kind := .primitive 'I', accessFlags := 0x411 }
/-- [I -/
def k21 : Class := { plain "[I" (some 0) with kind := .array 20 .int, interfaces := #[15, 2], accessFlags := 1041 }

def heap : Heap := #[{ cls := 7, slots := #[.long 0, .int 1, .null, .int 0, .null, .int 0, .int 0], vm := .statics 7 },
  { cls := 11, slots := #[.ref 3, .ref 4, .ref 5, .ref 6, .ref 7, .ref 8, .ref 9, .ref 10, .ref 11, .ref 12, .null], vm := .statics 11 },
  { cls := 13, slots := #[.null, .null, .null], vm := .statics 13 },
  { cls := 11, slots := #[.null, .int 0, .int 0], vm := .none },
  { cls := 11, slots := #[.null, .int 1, .int 0], vm := .none },
  { cls := 11, slots := #[.null, .int 2, .int 0], vm := .none },
  { cls := 11, slots := #[.null, .int 3, .int 0], vm := .none },
  { cls := 11, slots := #[.null, .int 4, .int 0], vm := .none },
  { cls := 11, slots := #[.null, .int 5, .int 0], vm := .none },
  { cls := 11, slots := #[.null, .int 6, .int 0], vm := .none },
  { cls := 11, slots := #[.null, .int 7, .int 0], vm := .none },
  { cls := 11, slots := #[.null, .int 8, .int 0], vm := .none },
  { cls := 11, slots := #[.null, .int 9, .int 0], vm := .none }]
def classes : Array Class := #[k0, k1, k2, k3, k4, k5, k6, k7, k8, k9, k10, k11, k12, k13, k14, k15, k16, k17, k18, k19, k20, k21]
def interned : List (Array UInt16 × Addr) := []
def slotsUsed : Nat := 51
def theMethod : MethodId := ⟨1, 3⟩
def args0 : Array Value := #[.int 5, .int 6, .int 7, .int 8]
def aboutOver (below : List Frame) : State where
  vm := { classes := classes, interned := interned.toArray }
  heap := heap
  slotsUsed := slotsUsed
  threads := #[{ frames := .invoking theMethod args0 :: below }]
def below0 : List Frame := [.native { method := ⟨0, 0⟩, args := #[] }]
def about1 : State := aboutOver below0
def p0 : Program := .bare "" "" ""
def e0 : Env := launch0.env 0 0 0
theorem w_frames : about1.frames = Frame.invoking theMethod args0 :: below0 := rfl
set_option maxRecDepth 65536 in
theorem w_args : argsFit about1.vm theMethod args0 = true := by decide +kernel
set_option maxRecDepth 65536 in
theorem w_heap : heapFits about1 = true := by decide +kernel
set_option maxRecDepth 65536 in
theorem w_runnable : about1.curStatus? = some .runnable := by decide +kernel
set_option maxRecDepth 65536 in
theorem w_alone : about1.alone = true := by decide +kernel
set_option maxRecDepth 65536 in
theorem w_named : about1.methodNamed? x = some theMethod := by decide +kernel
set_option maxRecDepth 65536 in
theorem w_hears : about1.hears theMethod below0 = true := by decide +kernel
set_option maxRecDepth 65536 in
theorem w_ripe : about1.ripe theMethod args0 below0 = true := by decide +kernel
theorem w_running : about1.status = .running := rfl
set_option maxRecDepth 65536 in
theorem w_room : about1.hasRoom e0.platform room_1 = true :=
  launch0.hasRoom_least _ room_1 (by decide +kernel) (by decide +kernel) (by decide +kernel) (by decide +kernel) (by decide +kernel) (by decide +kernel)
theorem allAtoms_all (ts : List Jvm.Cond) (a : Array Jvm.Value) (st : Jvm.State) : (allAtoms ts).before a st = ts.all (fun c => c.before a st) := by
  induction ts with
  | nil => rfl
  | cons c t ih =>
    show (Jvm.Cond.and c (allAtoms t)).before a st = _
    rw [Jvm.Cond.before_and, ih, List.all_cons]
def words1 : List Jvm.Cond := Jvm.Cond.code x code maxLocals ret :: tables_1
/-- a 'code' word, met by the world's own term for the bytes: nothing is compared byte by byte -/
theorem code_word {y : MethodName} {bytes : ByteArray} {mx : Nat} {rt : Option FieldType} {a : Array Value} {s : State} {m : MethodId} {meth : Method} {c : Code} (h1 : s.methodNamed? y = some m) (h2 : s.vm.method? m = some meth) (h3 : meth.code = some c) (h4 : c.code = bytes)
    (h5 : (c.maxLocals == mx && c.exceptionTable.isEmpty && decide (c.maxStack ≤ mostOperands) && decide (meth.sig.returnType = rt) && !meth.locks && decide (parseMethodDescriptor y.desc = some meth.sig)) = true) : (Jvm.Cond.code y bytes mx rt).before a s = true := by
  simp only [Bool.and_eq_true, beq_iff_eq, Bool.not_eq_true', decide_eq_true_eq] at h5
  obtain ⟨⟨⟨⟨⟨g1, g2⟩, g3⟩, g4⟩, g5⟩, g6⟩ := h5
  simp [Cond.before, Cond.holds, Cond.value, h1, h2, h3, h4, g1, g2, g3, g4, g5, g6]
def isCode : Jvm.Cond → Bool
  | .code _ _ _ _ => true
  | _ => false
theorem all_split {L : List Jvm.Cond} {P : Jvm.Cond → Bool} (h1 : L.all (fun c => isCode c || P c) = true) (h2 : ∀ c ∈ L.filter isCode, P c = true) : L.all P = true := by
  refine List.all_eq_true.mpr fun c hc => ?_
  have h := List.all_eq_true.mp h1 c hc
  rcases Bool.eq_false_or_eq_true (isCode c) with hi | hi
  · exact h2 c (List.mem_filter.mpr ⟨hc, hi⟩)
  · simpa [hi] using h
set_option maxRecDepth 65536 in
theorem w_c0 : (Jvm.Cond.code x code maxLocals ret).before args0 about1 = true := code_word (m := ⟨1, 3⟩) (meth := k1m3) (c := k1c3) (by decide +kernel) rfl rfl rfl (by decide +kernel)
set_option maxRecDepth 65536 in
theorem w_c1 : (Jvm.Cond.code ({ cls := "com/example/rhea/rhea/jq/TokenIsPinLaw", name := "str", desc := "(ICC)Ljava/lang/String;" } : Jvm.MethodName) method_3_code (3 : Nat) (Option.some (Jvm.ClassFile.FieldType.object "java/lang/String"))).before args0 about1 = true := code_word (m := ⟨1, 2⟩) (meth := k1m2) (c := k1c2) (by decide +kernel) rfl rfl rfl (by decide +kernel)
set_option maxRecDepth 65536 in
theorem w_c2 : (Jvm.Cond.code ({ cls := "java/lang/String", name := "<init>", desc := "([C)V" } : Jvm.MethodName) jdk_42_method_3_code (2 : Nat) (Option.none : Option Jvm.ClassFile.FieldType)).before args0 about1 = true := code_word (m := ⟨7, 1⟩) (meth := k7m1) (c := k7c1) (by decide +kernel) rfl rfl rfl (by decide +kernel)
set_option maxRecDepth 65536 in
theorem w_c3 : (Jvm.Cond.code ({ cls := "java/lang/String", name := "<init>", desc := "([CIILjava/lang/Void;)V" } : Jvm.MethodName) jdk_42_method_149_code (6 : Nat) (Option.none : Option Jvm.ClassFile.FieldType)).before args0 about1 = true := code_word (m := ⟨7, 3⟩) (meth := k7m3) (c := k7c3) (by decide +kernel) rfl rfl rfl (by decide +kernel)
set_option maxRecDepth 65536 in
theorem w_c4 : (Jvm.Cond.code ({ cls := "java/lang/Object", name := "<init>", desc := "()V" } : Jvm.MethodName) object_method_1_code (1 : Nat) (Option.none : Option Jvm.ClassFile.FieldType)).before args0 about1 = true := code_word (m := ⟨0, 0⟩) (meth := k0m0) (c := k0c0) (by decide +kernel) rfl rfl rfl (by decide +kernel)
set_option maxRecDepth 65536 in
theorem w_c5 : (Jvm.Cond.code ({ cls := "java/lang/StringUTF16", name := "compress", desc := "([CII)[B" } : Jvm.MethodName) jdk_52_method_16_code (6 : Nat) (Option.some (Jvm.ClassFile.FieldType.array Jvm.ClassFile.FieldType.byte))).before args0 about1 = true := code_word (m := ⟨8, 2⟩) (meth := k8m2) (c := k8c2) (by decide +kernel) rfl rfl rfl (by decide +kernel)
set_option maxRecDepth 65536 in
theorem w_c6 : (Jvm.Cond.code ({ cls := "java/lang/StringUTF16", name := "compress", desc := "([CI[BII)I" } : Jvm.MethodName) jdk_52_method_21_code (7 : Nat) (Option.some Jvm.ClassFile.FieldType.int)).before args0 about1 = true := code_word (m := ⟨8, 3⟩) (meth := k8m3) (c := k8c3) (by decide +kernel) rfl rfl rfl (by decide +kernel)
set_option maxRecDepth 65536 in
theorem w_c7 : (Jvm.Cond.code ({ cls := "java/lang/StringUTF16", name := "coderFromArrayLen", desc := "([BI)B" } : Jvm.MethodName) jdk_52_method_15_code (2 : Nat) (Option.some Jvm.ClassFile.FieldType.byte)).before args0 about1 = true := code_word (m := ⟨8, 1⟩) (meth := k8m1) (c := k8c1) (by decide +kernel) rfl rfl rfl (by decide +kernel)
set_option maxRecDepth 65536 in
theorem w_c8 : (Jvm.Cond.code ({ cls := "com/example/rhea/rhea/jq/TokenIsPinLaw", name := "kind", desc := "(I)Lcom/example/rhea/rhea/jq/Token$Kind;" } : Jvm.MethodName) method_2_code (1 : Nat) (Option.some (Jvm.ClassFile.FieldType.object "com/example/rhea/rhea/jq/Token$Kind"))).before args0 about1 = true := code_word (m := ⟨1, 1⟩) (meth := k1m1) (c := k1c1) (by decide +kernel) rfl rfl rfl (by decide +kernel)
set_option maxRecDepth 65536 in
theorem w_c9 : (Jvm.Cond.code ({ cls := "com/example/rhea/rhea/jq/Token", name := "<init>", desc := "(Lcom/example/rhea/rhea/jq/Token$Kind;Ljava/lang/String;ILjava/util/List;)V" } : Jvm.MethodName) prog_8_method_1_code (5 : Nat) (Option.none : Option Jvm.ClassFile.FieldType)).before args0 about1 = true := code_word (m := ⟨9, 0⟩) (meth := k9m0) (c := k9c0) (by decide +kernel) rfl rfl rfl (by decide +kernel)
set_option maxRecDepth 65536 in
theorem w_c10 : (Jvm.Cond.code ({ cls := "com/example/rhea/rhea/jq/Token", name := "is", desc := "(Lcom/example/rhea/rhea/jq/Token$Kind;Ljava/lang/String;)Z" } : Jvm.MethodName) prog_8_method_2_code (3 : Nat) (Option.some Jvm.ClassFile.FieldType.boolean)).before args0 about1 = true := code_word (m := ⟨9, 1⟩) (meth := k9m1) (c := k9c1) (by decide +kernel) rfl rfl rfl (by decide +kernel)
set_option maxRecDepth 65536 in
theorem w_c11 : (Jvm.Cond.code ({ cls := "java/lang/String", name := "equals", desc := "(Ljava/lang/Object;)Z" } : Jvm.MethodName) jdk_42_method_66_code (3 : Nat) (Option.some Jvm.ClassFile.FieldType.boolean)).before args0 about1 = true := code_word (m := ⟨7, 2⟩) (meth := k7m2) (c := k7c2) (by decide +kernel) rfl rfl rfl (by decide +kernel)
set_option maxRecDepth 65536 in
theorem w_c12 : (Jvm.Cond.code ({ cls := "java/lang/StringLatin1", name := "equals", desc := "([B[B)Z" } : Jvm.MethodName) jdk_43_method_13_code (3 : Nat) (Option.some Jvm.ClassFile.FieldType.boolean)).before args0 about1 = true := code_word (m := ⟨12, 1⟩) (meth := k12m1) (c := k12c1) (by decide +kernel) rfl rfl rfl (by decide +kernel)
def codes1 : List Jvm.Cond := [Jvm.Cond.code x code maxLocals ret, Jvm.Cond.code ({ cls := "com/example/rhea/rhea/jq/TokenIsPinLaw", name := "str", desc := "(ICC)Ljava/lang/String;" } : Jvm.MethodName) method_3_code (3 : Nat) (Option.some (Jvm.ClassFile.FieldType.object "java/lang/String")), Jvm.Cond.code ({ cls := "java/lang/String", name := "<init>", desc := "([C)V" } : Jvm.MethodName) jdk_42_method_3_code (2 : Nat) (Option.none : Option Jvm.ClassFile.FieldType), Jvm.Cond.code ({ cls := "java/lang/String", name := "<init>", desc := "([CIILjava/lang/Void;)V" } : Jvm.MethodName) jdk_42_method_149_code (6 : Nat) (Option.none : Option Jvm.ClassFile.FieldType), Jvm.Cond.code ({ cls := "java/lang/Object", name := "<init>", desc := "()V" } : Jvm.MethodName) object_method_1_code (1 : Nat) (Option.none : Option Jvm.ClassFile.FieldType), Jvm.Cond.code ({ cls := "java/lang/StringUTF16", name := "compress", desc := "([CII)[B" } : Jvm.MethodName) jdk_52_method_16_code (6 : Nat) (Option.some (Jvm.ClassFile.FieldType.array Jvm.ClassFile.FieldType.byte)), Jvm.Cond.code ({ cls := "java/lang/StringUTF16", name := "compress", desc := "([CI[BII)I" } : Jvm.MethodName) jdk_52_method_21_code (7 : Nat) (Option.some Jvm.ClassFile.FieldType.int), Jvm.Cond.code ({ cls := "java/lang/StringUTF16", name := "coderFromArrayLen", desc := "([BI)B" } : Jvm.MethodName) jdk_52_method_15_code (2 : Nat) (Option.some Jvm.ClassFile.FieldType.byte), Jvm.Cond.code ({ cls := "com/example/rhea/rhea/jq/TokenIsPinLaw", name := "kind", desc := "(I)Lcom/example/rhea/rhea/jq/Token$Kind;" } : Jvm.MethodName) method_2_code (1 : Nat) (Option.some (Jvm.ClassFile.FieldType.object "com/example/rhea/rhea/jq/Token$Kind")), Jvm.Cond.code ({ cls := "com/example/rhea/rhea/jq/Token", name := "<init>", desc := "(Lcom/example/rhea/rhea/jq/Token$Kind;Ljava/lang/String;ILjava/util/List;)V" } : Jvm.MethodName) prog_8_method_1_code (5 : Nat) (Option.none : Option Jvm.ClassFile.FieldType), Jvm.Cond.code ({ cls := "com/example/rhea/rhea/jq/Token", name := "is", desc := "(Lcom/example/rhea/rhea/jq/Token$Kind;Ljava/lang/String;)Z" } : Jvm.MethodName) prog_8_method_2_code (3 : Nat) (Option.some Jvm.ClassFile.FieldType.boolean), Jvm.Cond.code ({ cls := "java/lang/String", name := "equals", desc := "(Ljava/lang/Object;)Z" } : Jvm.MethodName) jdk_42_method_66_code (3 : Nat) (Option.some Jvm.ClassFile.FieldType.boolean), Jvm.Cond.code ({ cls := "java/lang/StringLatin1", name := "equals", desc := "([B[B)Z" } : Jvm.MethodName) jdk_43_method_13_code (3 : Nat) (Option.some Jvm.ClassFile.FieldType.boolean)]
set_option maxRecDepth 65536 in
theorem codes_eq : words1.filter isCode = codes1 := rfl
theorem w_codes : ∀ c ∈ words1.filter isCode, c.before args0 about1 = true := by
  rw [codes_eq]
  intro c hc
  simp only [codes1, List.mem_cons, List.not_mem_nil, or_false] at hc
  rcases hc with rfl | rfl | rfl | rfl | rfl | rfl | rfl | rfl | rfl | rfl | rfl | rfl | rfl
  · exact w_c0
  · exact w_c1
  · exact w_c2
  · exact w_c3
  · exact w_c4
  · exact w_c5
  · exact w_c6
  · exact w_c7
  · exact w_c8
  · exact w_c9
  · exact w_c10
  · exact w_c11
  · exact w_c12
set_option maxRecDepth 65536 in
theorem w_t1 : (words1.take 24).all (fun c => isCode c || c.before args0 about1) = true := by decide +kernel
set_option maxRecDepth 65536 in
theorem w_t2 : ((words1.drop 24).take 24).all (fun c => isCode c || c.before args0 about1) = true := by decide +kernel
set_option maxRecDepth 65536 in
theorem w_t3 : (((words1.drop 24).drop 24).take 24).all (fun c => isCode c || c.before args0 about1) = true := by decide +kernel
set_option maxRecDepth 65536 in
theorem w_t4 : (((words1.drop 24).drop 24).drop 24).all (fun c => isCode c || c.before args0 about1) = true := by decide +kernel
theorem w_tables : (allAtoms (Jvm.Cond.code x code maxLocals ret :: tables_1)).before args0 about1 = true := by
  rw [allAtoms_all]
  show words1.all (fun c => c.before args0 about1) = true
  refine all_split ?_ w_codes
  rw [← List.take_append_drop 24 words1, List.all_append, w_t1, ← List.take_append_drop 24 (words1.drop 24), List.all_append, w_t2, ← List.take_append_drop 24 ((words1.drop 24).drop 24), List.all_append, w_t3, w_t4]
  rfl
set_option maxRecDepth 65536 in
theorem w_rest : rest_1_c.before args0 about1 = true := by decide +kernel
set_option maxRecDepth 65536 in
theorem w_case : (Jvm.Cond.and given_1 narrow_1).before args0 about1 = true := by decide +kernel
set_option maxRecDepth 65536 in
theorem w_consts : constsHeld consts_1 about1 := Jvm.Lit.constsHeldB_iff.mp (by decide +kernel)
theorem w_applies : (headSpec (Jvm.Cond.code x code maxLocals ret :: tables_1) room_1).applies x e0.platform about1 = true :=
  (Spec.applies_iff w_frames).mpr ⟨w_running, w_runnable, w_alone, w_named, w_hears, w_ripe, w_room, w_tables⟩
theorem atStart : AtStart classFile x code maxLocals ret World_1 tables_1 room_1 Calls_1 rest_1 Pre_1 launch0 p0 e0 about1 theMethod args0 below0 :=
  ⟨lists_1, trivial, launch0.admits_env _ _ _, launch0.least_env, fairChoices_fair.cas, fairChoices_fair.clock, w_frames, w_args, w_heap, w_applies, ⟨w_consts, trivial⟩, w_rest, w_case⟩
end start1
theorem witness_1 : WitnessClaimed_1 := ⟨start1.p0, start1.e0, start1.about1, start1.theMethod, start1.args0, start1.below0, start1.atStart⟩
end Jvm.Pilot.@@N@@
