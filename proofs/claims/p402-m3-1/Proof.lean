import JvmDerived
import JvmDerived.Pilot.@@N@@Statement
import JvmDerived.Pilot.@@N@@Code
set_option linter.unusedVariables false
set_option linter.unusedSimpArgs false
namespace Jvm.RoadKit
open Sem ClassFile Op Lib Jvm.Stand Jvm.Free Jvm.LawKit
section OwnKit
variable {p : Program} {l : Launch} {e : Env} {R : Room} {s : State} {m : MethodId} {args : Array Value} {below : List Frame} {meth : Method} {c : Code} {T T' : State} {locs : List Loc} {cells slots : Nat} {g g' : JFrame} {P : State → Outcome → Prop} {Z : State} {h h' h2 : Heap} {a b : Addr} {sl : Nat} {v : Value}
def Rch (p : Program) (e : Env) (below : List Frame) (T : State) (g : JFrame) (P : State → Outcome → Prop) : Prop := ∃ s₂ o, Steps p.tables e below (T.setTop g) s₂ ∧ s₂.status = .running ∧ Ended s₂ below o ∧ P s₂ o
theorem Rch.st (st : ∀ t, Steps p.tables e below (T'.setTop g') t → Steps p.tables e below (T.setTop g) t) (r : Rch p e below T' g' P) : Rch p e below T g P := by
  obtain ⟨s₂, o, h1, h2⟩ := r
  exact ⟨s₂, o, st _ h1, h2⟩
theorem Rch.go (st : Steps p.tables e below (T.setTop g) (T'.setTop g')) (r : Rch p e below T' g' P) : Rch p e below T g P := Rch.st (fun _ k => st.trans k) r
theorem Rch.cast (q : g = g') (r : Rch p e below T g' P) : Rch p e below T g P := q ▸ r
theorem Rch.fin (X : Stand p l e R s m args below meth c T locs cells slots) {v : Option Value} (hv : meth.sig.returnType = none → v = none) (hlk : meth.locks = false) {Q : Option Value → Heap → List Loc → Prop} {k n : Nat}
    (hret : ∀ fs, (∀ (f : JFrame) (acts : List Action), f.method = m → f.locked = none → f.entered = [] → (doReturn e (T.setTop f) acts v).1 = T.setFrames fs) → Steps p.tables e below (T.setTop g) (T.setFrames fs))
    (hq : Q v T.heap locs) (hk : cells ≤ k) (hn : slots ≤ n) : Rch p e below T g (fun U o => ∃ v L, o = .returned v ∧ Q v U.heap L ∧ FrameEnd s o U L k n) := by
  obtain ⟨fs, hr, hrun, hended, hW, hsame⟩ := X.leave hv hlk
  exact ⟨_, _, hret fs hr, hrun, hended, _, _, rfl, hq, ⟨_, rfl⟩, hW, hsame.mono hk hn⟩
theorem Rch.finW {vm0 : Vm} {EL : List (String × Nat)} {a0 : Array Value} (X : Stand p l e R (s.setVm vm0) m args below meth c T locs cells slots) (hZ : Z.Warmed39 vm0) (hEL : EW Z a0 EL) {k0 : Nat} (hS : s.Since vm0 k0) (hk0 : k0 ≤ T.heap.size) (eT : T.heap = h) (hC : CHr Z EL s.vm s.heap vm0 h) {v : Option Value} (hv : meth.sig.returnType = none → v = none) (hlk : meth.locks = false) {Q : Option Value → Heap → List Loc → Prop} {k n : Nat}
    (hret : ∀ fs, (∀ (f : JFrame) (acts : List Action), f.method = m → f.locked = none → f.entered = [] → (doReturn e (T.setTop f) acts v).1 = T.setFrames fs) → Steps p.tables e below (T.setTop g) (T.setFrames fs))
    (hq : Q v T.heap locs) (hk : cells ≤ k) (hn : slots ≤ n) : Rch p e below T g (fun U o => ∃ v L, o = .returned v ∧ Q v U.heap L ∧ CHr Z EL s.vm s.heap U.vm U.heap ∧ ReturnedEndW s o U L k n) := by
  obtain ⟨fs, hr, hrun, hended, q1, q2, q3, q4⟩ := X.leaveW hS hk0 hv hlk
  subst eT
  exact ⟨_, _, hret fs hr, hrun, hended, _, _, rfl, hq, hC.trans (show CHr Z EL vm0 T.heap T.vm T.heap from CHv.at X hZ hEL hC.1), q1, q2, q3, q4.mono hk hn⟩
theorem retR (X : Stand p l e R s m args below meth c T locs cells slots) (hx : p.tables.exec = Jvm.exec) {pc : Nat} {Ls : Array Slot} {w : Value} {t : FieldType} {rest : List Value} (hret : meth.sig.returnType = some t) (ht : t.isReference = true) (hw : w.isRef = true) (hd : decode c.code pc = .ok (.areturn, 1)) {fs : List Frame}
    (hl : ∀ (f : JFrame) (acts : List Action), f.method = m → f.locked = none → f.entered = [] → (doReturn e (T.setTop f) acts (some w)).1 = T.setFrames fs) : Steps p.tables e below (T.setTop (mkF m pc Ls (w :: rest))) (T.setFrames fs) :=
  retOut X hx hret (by cases t <;> first | rfl | cases ht) (Or.inr (Or.inr (Or.inr (Or.inr ⟨rfl, ht, hw⟩)))) hd hl
theorem retI (X : Stand p l e R s m args below meth c T locs cells slots) (hx : p.tables.exec = Jvm.exec) {pc : Nat} {Ls : Array Slot} {z : Int32} {rest : List Value} (hret : meth.sig.returnType = some .int) (hd : decode c.code pc = .ok (.ireturn, 1)) {fs : List Frame}
    (hl : ∀ (f : JFrame) (acts : List Action), f.method = m → f.locked = none → f.entered = [] → (doReturn e (T.setTop f) acts (some (.int z))).1 = T.setFrames fs) : Steps p.tables e below (T.setTop (mkF m pc Ls (.int z :: rest))) (T.setFrames fs) :=
  retOut X hx hret rfl (Or.inl ⟨rfl, Or.inl rfl, _, rfl⟩) hd hl
theorem Ext.rf : Ext h h := ⟨Nat.le_refl _, fun _ _ q => q⟩
theorem Ext.tr (A : Ext h h') (B : Ext h' h2) : Ext h h2 := ⟨Nat.le_trans A.1 B.1, fun x c q => B.2 x c (A.2 x c q)⟩
theorem extKeep {ws : List Addr} (A : Ext h h') (K : Keep h' h2 ws) (q : ∀ x ∈ ws, h.size ≤ x) : Ext h h2 := ⟨Nat.le_trans A.1 K.1, fun x c r => K.2.1 x c (A.2 x c r) (fun z => absurd (Array.getElem?_eq_some_iff.mp r).1 (Nat.not_lt.mpr (q x z)))⟩
theorem extWr (A : Ext h h') (W : Wr h' h2 a sl v) (q : h.size ≤ a) : Ext h h2 := extKeep A (Keep.of_wr W) (allS q all0)
theorem extKeep1 (A : Ext h h') (K : Keep h' h2 [a]) (q : h.size ≤ a) : Ext h h2 := extKeep A K (allS q all0)
theorem Ext.keep (A : Ext h h') (ws : List Addr) : Keep h h' ws := ⟨A.1, fun x c q _ => A.2 x c q, fun x c q => ⟨c, A.2 x c q, rfl, rfl, rfl⟩⟩
theorem fr_app {k : Nat} {L L' : List Loc} (N : Fr k L) (N' : Fr k L') : Fr k (L ++ L') := Fr.app N N'
theorem stCv {n0 : Nat} (X : Stand p l e R s m args below meth c T locs cells slots) (hx : p.tables.exec = Jvm.exec) (hZ : Z.Warmed39 s.vm) (eT : T.heap = h) {k : ClassId} {z : Int32} {vs : List Value} (M : Arv Z h b k .char z vs (.int 0)) (N : Fr n0 locs) (hb : n0 ≤ b) {j x : Int32} (hj : ¬ j < 0 ∧ j < z) (i : Nat) (hi : j.toNatClampNeg = i) (hl : i < vs.length) {g : JFrame} (hg : g.method = m) {rest : List Value} (hs : g.stack = .int x :: .int j :: .ref b :: rest) (hd : decode c.code g.pc = .ok (.castore, 1)) :
    ∃ T' h' locs' sl, Stand p l e R s m args below meth c T' locs' cells slots ∧ T'.heap = h' ∧ Wr h h' b sl (.int (nar .char x)) ∧ Arv Z h' b k .char z (vs.set i (.int (nar .char x))) (.int 0) ∧ Fr n0 locs' ∧ ∀ target, Steps p.tables e below (T'.setTop { g with pc := g.pc + 1, stack := rest }) target → Steps p.tables e below (T.setTop g) target := by
  obtain ⟨cl, A, q1, S, q3, H, G⟩ := M
  obtain ⟨T', h', X', e', W, st⟩ := stC X hx hZ eT A (inb_of S hj) hg hs hd
  exact ⟨T', h', _, _, X', e', W, Arv.set A q1 S q3 H G (fits_nar_char _) W i hi hl, Fr.snoc X' N hb, st⟩
theorem aalA (X : Stand p l e R s m args below meth c T locs cells slots) (hx : p.tables.exec = Jvm.exec) (hZ : Z.Warmed39 s.vm) (eT : T.heap = h) {k : ClassId} {ty : FieldType} {z : Int32} {vs : List Value} {dv : Value} (M : Arh Z h b k ty z [] vs dv) (hr : ty.isReference = true) {j : Int32} (hj : ¬ j < 0 ∧ j < z) {v : Value} (hv : vs.getD j.toNatClampNeg dv = v) {g : JFrame} (hg : g.method = m) {rest : List Value} (hs : g.stack = .int j :: .ref b :: rest) (hd : decode c.code g.pc = .ok (.aaload, 1)) :
    ∀ target, Steps p.tables e below (T.setTop { g with pc := g.pc + 1, stack := v :: rest }) target → Steps p.tables e below (T.setTop g) target := by
  obtain ⟨cl, A, q1, S, q3, H, G⟩ := M
  exact fun t k => X.aaload hx (j := j) (v := v) (by rw [eT]; exact A.1) (State.isArrayOf_alike hZ.alike A.2.1) hr A.2.2 (inb_of S hj) (atH H (inb_of S hj) hv) hg hs hd _ k
theorem alenA (X : Stand p l e R s m args below meth c T locs cells slots) (hx : p.tables.exec = Jvm.exec) (hZ : Z.Warmed39 s.vm) (eT : T.heap = h) {k : ClassId} {ty : FieldType} {z : Int32} {hs' : List (Int32 × Value)} {vs : List Value} {dv : Value} (M : Arh Z h b k ty z hs' vs dv) {g : JFrame} (hg : g.method = m) {rest : List Value} (hs : g.stack = .ref b :: rest) (hd : decode c.code g.pc = .ok (.arraylength, 1)) :
    ∀ target, Steps p.tables e below (T.setTop { g with pc := g.pc + 1, stack := .int z :: rest }) target → Steps p.tables e below (T.setTop g) target := by
  obtain ⟨cl, A, q1, S, q3, H, G⟩ := M
  intro t k
  refine X.arraylength hx (by rw [eT]; exact A.1) (State.isArrayOf_alike hZ.alike A.2.1) hg hs hd _ ?_
  rw [len_of S q3]
  exact k
end OwnKit
section OwnStart
variable {args : Array Value} {s : State} {t u : Term} {a w : Addr} {cl : Cell}
theorem len_is {n : Int32} (ht : t.eval args s none [] s = some (.ref a)) (hc : s.heap[a]? = some cl) (h : (Cond.eq (.length t) (.int n)).value args s none s [] = some true) : cl.slots.size < 2 ^ 31 ∧ cl.slots.size.toInt32 = n := by
  obtain ⟨x, y, e1, e2, -⟩ := cmp_v (Or.inl h)
  obtain ⟨a', cell, h1, h2, rfl⟩ := Term.length_spec e1
  cases ht.symm.trans h1
  cases hc.symm.trans (State.arrayAt?_spec h2).1
  have q := gotT (Cond.eq_ints e1 (Term.int_eval n)) h
  refine ⟨?_, q⟩
  by_cases hl : cl.slots.size < 2 ^ 31
  · exact hl
  · simp [Term.eval, h1, h2, hl] at e1
theorem elem_ref {j : Int32} (ht : t.eval args s none [] s = some (.ref a)) (hu : u.eval args s none [] s = some (.ref w)) (hc : s.heap[a]? = some cl) (h : (Cond.eq (.elem t (.int j)) u).value args s none s [] = some true) : cl.slots[j.toNatClampNeg]? = some (.ref w) := by
  obtain ⟨x, y, e1, e2, k1, k2⟩ := cmp_v (Or.inl h)
  cases hu.symm.trans e2
  obtain ⟨-, q⟩ := elem_in e1 ht (Term.int_eval j) hc
  have hx : x.isRef = true := k2.2
  have := gotT (eq_R e1 e2 hx rfl) h
  rw [this] at q; exact q
theorem elem_int {j z : Int32} (ht : t.eval args s none [] s = some (.ref a)) (hc : s.heap[a]? = some cl) (h : (Cond.eq (.elem t (.int j)) (.int z)).value args s none s [] = some true) : cl.slots[j.toNatClampNeg]? = some (.int z) := by
  obtain ⟨x, y, e1, e2, k1, k2⟩ := cmp_v (Or.inl h)
  cases (Term.int_eval z).symm.trans e2
  obtain ⟨-, q⟩ := elem_in e1 ht (Term.int_eval j) hc
  obtain ⟨x', rfl⟩ := k2
  have := gotT (Cond.eq_ints e1 (Term.int_eval z)) h
  rw [this] at q; exact q
theorem fld_int {C n d : String} {z : Int32} (ht : t.eval args s none [] s = some (.ref a)) (h : (Cond.eq (.field t C n d) (.int z)).value args s none s [] = some true) : Fld s s.heap a C n d (.int z) := by
  obtain ⟨x, y, e1, e2, k1, k2⟩ := cmp_v (Or.inl h)
  cases (Term.int_eval z).symm.trans e2
  obtain ⟨x', rfl⟩ := k2
  have q := gotT (Cond.eq_ints e1 (Term.int_eval z)) h
  rw [q, fld_at ht] at e1
  exact Fld.start e1
theorem fld_refS {C n d : String} (ht : t.eval args s none [] s = some (.ref a)) (h : (Term.field t C n d).eval args s none [] s = some (.ref w)) : Fld s s.heap a C n d (.ref w) := by
  rw [fld_at ht] at h
  exact Fld.start h
end OwnStart
end Jvm.RoadKit
namespace Jvm.RoadKit
open Sem ClassFile Op Lib Jvm.Stand Jvm.Free Jvm.LawKit
section OwnKit2
variable {p : Program} {l : Launch} {e : Env} {R : Room} {s : State} {m : MethodId} {args : Array Value} {below : List Frame} {meth : Method} {c : Code} {T T' : State} {locs : List Loc} {cells slots : Nat} {Z : State} {h h' h2 : Heap} {a b : Addr} {sl : Nat} {v : Value}
theorem fits_nar_b (x : Int32) : fits .byte (.int (nar .byte x)) = true := fits_nar_byte x
theorem stBv {n0 : Nat} (X : Stand p l e R s m args below meth c T locs cells slots) (hx : p.tables.exec = Jvm.exec) (hZ : Z.Warmed39 s.vm) (eT : T.heap = h) {k : ClassId} {z : Int32} {vs : List Value} (M : Arv Z h b k .byte z vs (.int 0)) (N : Fr n0 locs) (hb : n0 ≤ b) {j x : Int32} (hj : ¬ j < 0 ∧ j < z) (i : Nat) (hi : j.toNatClampNeg = i) (hl : i < vs.length) {g : JFrame} (hg : g.method = m) {rest : List Value} (hs : g.stack = .int x :: .int j :: .ref b :: rest) (hd : decode c.code g.pc = .ok (.bastore, 1)) :
    ∃ T' h' locs' sl, Stand p l e R s m args below meth c T' locs' cells slots ∧ T'.heap = h' ∧ Wr h h' b sl (.int (nar .byte x)) ∧ Arv Z h' b k .byte z (vs.set i (.int (nar .byte x))) (.int 0) ∧ Fr n0 locs' ∧ ∀ target, Steps p.tables e below (T'.setTop { g with pc := g.pc + 1, stack := rest }) target → Steps p.tables e below (T.setTop g) target := by
  obtain ⟨cl, A, q1, S, q3, H, G⟩ := M
  obtain ⟨T', h', X', e', W, st⟩ := stB X hx hZ eT A (inb_of S hj) hg hs hd
  exact ⟨T', h', _, _, X', e', W, Arv.set A q1 S q3 H G (fits_nar_b _) W i hi hl, Fr.snoc X' N hb, st⟩
end OwnKit2
end Jvm.RoadKit
namespace Jvm.RoadKit
open Sem ClassFile Op Lib Bundle Jvm.Stand Jvm.Free Jvm.LawKit Jvm.Free.SB Jvm.Free.SBG
section OwnSafe
variable {Z : State} {EL : List (String × Nat)} {vm : Vm} {h : Heap}
/-- a String whose value is still null is no booked one -/
theorem Safe.blank {x : Addr} (hal : Z.vm.Alike vm) (E : Exa Z h x "java/lang/String") (F : Fld Z h x "java/lang/String" "value" "[B" .null) : Safe Z EL vm h x := fun B => by
  obtain ⟨p, -, u, a, -, q, -, G, rfl | rfl⟩ := B
  · obtain ⟨cell, cf, k, i, f, h1, h2, -, -, -, -, h7⟩ := F
    obtain ⟨cS, ⟨⟨s1, -, -, ⟨cv, kv, iv, s4, -⟩, -, -, -, s8, -⟩, -⟩, -⟩ := G
    cases h1.symm.trans (show h[q.sa]? = some q.sC from s1)
    obtain ⟨k3, e3, -⟩ := State.fieldFound?_setVm (s := Z) hal h2
    have e4 := (show (Wst Z vm h).fieldFound? _ _ _ = _ from e3).symm.trans s4
    simp only [Option.some.injEq, Prod.mk.injEq] at e4
    rw [← e4.2.2.2, h7] at s8
    cases s8
  · obtain ⟨cell, k, e1, e2, e3, -, -⟩ := E
    cases (show h[q.sd]? = some q.SA from G.hd).symm.trans e1
    obtain ⟨cS, -, -, f, -⟩ := G
    have f' : vm.findClass "[B" = some q.SA.cls := f
    rw [hal.findClass] at f'
    obtain ⟨k1, q1, q2⟩ := Vm.findClass_spec f'
    obtain ⟨k2, q3, q4⟩ := Vm.findClass_spec e2
    cases q1.symm.trans q3
    exact absurd (q2.symm.trans q4) (by decide)
end OwnSafe
end Jvm.RoadKit
namespace Jvm.RoadKit
open Sem ClassFile Op Lib Jvm.Stand Jvm.Free Jvm.LawKit
section OwnKit3
variable {p : Program} {l : Launch} {e : Env} {R : Room} {s : State} {m : MethodId} {args : Array Value} {below : List Frame} {meth : Method} {c : Code} {T T' : State} {locs : List Loc} {cells slots : Nat} {Z : State} {h h' h2 : Heap} {a b : Addr} {sl : Nat} {v : Value}
theorem balA (X : Stand p l e R s m args below meth c T locs cells slots) (hx : p.tables.exec = Jvm.exec) (hZ : Z.Warmed39 s.vm) (eT : T.heap = h) {k : ClassId} {z : Int32} {vs : List Value} {dv : Value} (M : Arv Z h b k .byte z vs dv) {j : Int32} (hj : ¬ j < 0 ∧ j < z) {v : Value} (hv : vs.getD j.toNatClampNeg dv = v) {g : JFrame} (hg : g.method = m) {rest : List Value} (hs : g.stack = .int j :: .ref b :: rest) (hd : decode c.code g.pc = .ok (.baload, 1)) :
    ∀ target, Steps p.tables e below (T.setTop { g with pc := g.pc + 1, stack := v :: rest }) target → Steps p.tables e below (T.setTop g) target := by
  obtain ⟨cl, A, q1, S, q3, H, G⟩ := M
  exact fun t k => X.baloadBytes hx (j := j) (v := v) (by rw [eT]; exact A.1) (State.isArrayOf_alike hZ.alike A.2.1) A.2.2 (inb_of S hj) (H.at (inb_of S hj) hv) hg hs hd _ k
theorem calA (X : Stand p l e R s m args below meth c T locs cells slots) (hx : p.tables.exec = Jvm.exec) (hZ : Z.Warmed39 s.vm) (eT : T.heap = h) {k : ClassId} {z : Int32} {vs : List Value} {dv : Value} (M : Arv Z h b k .char z vs dv) {j : Int32} (hj : ¬ j < 0 ∧ j < z) {v : Value} (hv : vs.getD j.toNatClampNeg dv = v) {g : JFrame} (hg : g.method = m) {rest : List Value} (hs : g.stack = .int j :: .ref b :: rest) (hd : decode c.code g.pc = .ok (.caload, 1)) :
    ∀ target, Steps p.tables e below (T.setTop { g with pc := g.pc + 1, stack := v :: rest }) target → Steps p.tables e below (T.setTop g) target := by
  obtain ⟨cl, A, q1, S, q3, H, G⟩ := M
  exact fun t k => X.caload hx (j := j) (v := v) (by rw [eT]; exact A.1) (State.isArrayOf_alike hZ.alike A.2.1) A.2.2 (inb_of S hj) (H.at (inb_of S hj) hv) hg hs hd _ k
theorem ofN_neg {n : Nat} (h : n < 2 ^ 31) : ¬ Int32.ofNat n < 0 := Int32.ofNat_not_neg h
theorem ofN_lt {i n : Nat} (h : i < n) (hn : n < 2 ^ 31) : Int32.ofNat i < Int32.ofNat n := by
  rw [Int32.lt_iff_toInt_lt, Int32.toInt_ofNat_small (show i < 2 ^ 31 by omega), Int32.toInt_ofNat_small hn]; omega
theorem ofN_le {i n : Nat} (h : n ≤ i) (hi : i < 2 ^ 31) : ¬ Int32.ofNat i < Int32.ofNat n := by
  rw [Int32.lt_iff_toInt_lt, Int32.toInt_ofNat_small hi, Int32.toInt_ofNat_small (show n < 2 ^ 31 by omega)]; omega
theorem ofN_clamp {n : Nat} (h : n < 2 ^ 31) : (Int32.ofNat n).toNatClampNeg = n := by
  show (Int32.ofNat n).toInt.toNat = n
  rw [Int32.toInt_ofNat_small h]; rfl
end OwnKit3
end Jvm.RoadKit
namespace Jvm.RoadKit
open Sem ClassFile Op Lib Jvm.Stand Jvm.Free Jvm.LawKit
theorem eval_int {args : Array Value} {s : State} {t : Term} {z : Int32} (h : (Cond.eq t (.int z)).value args s none s [] = some true) : t.eval args s none [] s = some (.int z) := by
  obtain ⟨x, y, e1, e2, k1, k2⟩ := cmp_v (Or.inl h)
  cases (Term.int_eval z).symm.trans e2
  obtain ⟨x', rfl⟩ := k2
  rw [gotT (Cond.eq_ints e1 (Term.int_eval z)) h] at e1
  exact e1
end Jvm.RoadKit
/- laws to paste: Road.backV, Road.eqW, Road.codOf (cut by pick.py; bodies as the Statement names them) -/
namespace Jvm.Pilot.@@N@@
namespace StrChars
open Jvm Sem ClassFile Op Lib Jvm.Stand Jvm.Free.XT Jvm.Free.ALB Jvm.Free.JM Jvm.Free
open Jvm.Lib.Cold (StaticIs)
/-- a char array whose places are chars -/
def Ch (a : Addr) (A : Cell) (U : State) : Prop := Arr .char a A U ∧ Typed .char A
theorem Ch.mv {a : Addr} {A : Cell} {U U' : State} (h : Ch a A U) (hal : U.vm.Alike U'.vm) (hh : U'.heap = U.heap) : Ch a A U' := ⟨h.1.mv hal hh, h.2⟩
theorem Ch.keep {a : Addr} {A : Cell} {U U' : State} (h : Ch a A U) (hal : U.vm.Alike U'.vm) (hk : U'.heap[a]? = some A) : Ch a A U' := ⟨h.1.keep hal hk, h.2⟩
/-- what place i of a char[]'s cell holds -/
def cv (A : Cell) (i : Nat) : Int32 := match A.slots[i]? with | some (.int x) => x | _ => 0
theorem Ch.get {a : Addr} {A : Cell} {U : State} (h : Ch a A U) {i : Nat} (hi : i < A.slots.size) : A.slots[i]? = some (.int (cv A i)) := by
  have e := Array.getElem?_eq_getElem hi
  have f := h.2 i _ e
  unfold cv; rw [e]
  generalize A.slots[i] = v at f
  cases v <;> simp [fits] at f ⊢
/-- the byte that i2b leaves of a char -/
def lo8 (x : Int32) : Int32 := x.toInt8.toInt32
theorem fits_lo8 (y : Int32) : fits .byte (.int (lo8 y)) = true := by
  have h1 := y.toInt8.le_toInt
  have h2 := y.toInt8.toInt_lt
  simp only [lo8, fits, Bool.and_eq_true, decide_eq_true_eq, Int32.le_iff_toInt_le, Int8.toInt_toInt32, show (-128 : Int32).toInt = -128 from by decide, show (127 : Int32).toInt = 127 from by decide]
  omega
/-- A' is A but that each place j of lo .. hi - 1 holds f j -/
def Laid (A A' : Cell) (lo hi : Nat) (f : Nat → Value) : Prop := A'.cls = A.cls ∧ A'.vm = A.vm ∧ A'.slots.size = A.slots.size ∧ ∀ i, A'.slots[i]? = if lo ≤ i ∧ i < hi then some (f i) else A.slots[i]?
theorem Laid.zero (A : Cell) (lo : Nat) (f : Nat → Value) : Laid A A lo (lo + 0) f := ⟨rfl, rfl, rfl, fun i => by rw [if_neg (by omega)]⟩
theorem Laid.step {A Ak : Cell} {lo k : Nat} {f : Nat → Value} {v : Value} (h : Laid A Ak lo k f) (hlo : lo ≤ k) (hk : k < Ak.slots.size) (hv : v = f k) : Laid A (Ak.setSlot k v) lo (k + 1) f := by
  refine ⟨h.1, h.2.1, by simpa [Cell.setSlot] using h.2.2.1, fun i => ?_⟩
  by_cases e : k = i
  · subst e; rw [Cell.slots_setSlot_self v hk, if_pos (by omega), hv]
  · rw [Cell.slots_setSlot_ne v e, h.2.2.2 i]
    by_cases q : lo ≤ i ∧ i < k
    · rw [if_pos q, if_pos (by omega)]
    · rw [if_neg q, if_neg (by omega)]
def U16 : String := "java/lang/StringUTF16"
namespace Cmp5
def yN : MethodName := ⟨"java/lang/StringUTF16", "compress", "([CI[BII)I"⟩
abbrev yB : ByteArray := jdk_52_method_21_code
theorem d0 : decode yB 0 = .ok (.iconst 0, 1) := by decide +kernel
theorem d1 : decode yB 1 = .ok (.istore 5, 2) := by decide +kernel
theorem d3 : decode yB 3 = .ok (.iload 5, 2) := by decide +kernel
theorem d5 : decode yB 5 = .ok (.iload 4, 2) := by decide +kernel
theorem d7 : decode yB 7 = .ok (.if_icmp (.ge) 37, 3) := by decide +kernel
theorem d10 : decode yB 10 = .ok (.aload_n 0, 1) := by decide +kernel
theorem d11 : decode yB 11 = .ok (.iload_n 1, 1) := by decide +kernel
theorem d12 : decode yB 12 = .ok (.caload, 1) := by decide +kernel
theorem d13 : decode yB 13 = .ok (.istore 6, 2) := by decide +kernel
theorem d15 : decode yB 15 = .ok (.iload 6, 2) := by decide +kernel
theorem d17 : decode yB 17 = .ok (.sipush 255, 3) := by decide +kernel
theorem d20 : decode yB 20 = .ok (.if_icmp (.le) 6, 3) := by decide +kernel
theorem d26 : decode yB 26 = .ok (.aload_n 2, 1) := by decide +kernel
theorem d27 : decode yB 27 = .ok (.iload_n 3, 1) := by decide +kernel
theorem d28 : decode yB 28 = .ok (.iload 6, 2) := by decide +kernel
theorem d30 : decode yB 30 = .ok (.i2b, 1) := by decide +kernel
theorem d31 : decode yB 31 = .ok (.bastore, 1) := by decide +kernel
theorem d32 : decode yB 32 = .ok (.iinc 1 1, 3) := by decide +kernel
theorem d35 : decode yB 35 = .ok (.iinc 3 1, 3) := by decide +kernel
theorem d38 : decode yB 38 = .ok (.iinc 5 1, 3) := by decide +kernel
theorem d41 : decode yB 41 = .ok (.goto (-38), 3) := by decide +kernel
theorem d44 : decode yB 44 = .ok (.iload 4, 2) := by decide +kernel
theorem d46 : decode yB 46 = .ok (.ireturn, 1) := by decide +kernel
def site : List Cond := []
def tab : Cond := tabOf yN yB 7 (some .int) site
def P (b : Addr) (A : Cell) (d : Addr) (B : Cell) (o q len : Nat) (args : Array Value) (s : State) : Prop := args = #[.ref b, .int (Int32.ofNat o), .ref d, .int (Int32.ofNat q), .int (Int32.ofNat len)] ∧ Ch b A s ∧ Arr .byte d B s ∧ b ≠ d ∧ o + len ≤ A.slots.size ∧ q + len ≤ B.slots.size ∧ ∀ i, i < len → ¬ 255 < cv A (o + i)
def E (b : Addr) (A : Cell) (d : Addr) (B : Cell) (o q len : Nat) (r : Option Value) (s u : State) : Prop := r = some (.int (Int32.ofNat len)) ∧ ∃ B', Put d B' s u ∧ Laid B B' q (q + len) (fun j => Value.int (lo8 (cv A (o + (j - q)))))
/-- no char of the range above 255: len; the places written hold each char's low byte -/
theorem law (l : Launch) (b : Addr) (A : Cell) (d : Addr) (B : Cell) (o q len : Nat) : Law l yN 5 5 0 0 yB 7 (some .int) site (P b A d B o q len) (E b A d B o q len) (copyLocs d q len) 0 0 := by
  refine Law.of_walk (plainFor_of_name (by decide +kernel)) (by decide +kernel) (by decide +kernel) (by decide) (fun _ _ h => by rw [h.1]; rfl) (fun _ U U' hal hh h => ⟨h.1, h.2.1.mv hal hh, h.2.2.1.mv hal hh, h.2.2.2⟩) (fun r U U' V V' h1 hal h2 h => ⟨h.1, h.2.elim fun B' q => ⟨B', q.1.mv h1 h2, q.2⟩⟩) ?_
  intro p e s m args below meth c s₁ X0 hexec hbytes hml hret hlk hnm hown hh0 W hP
  obtain ⟨rfl, hA, hB, hne, l1, l2, hp⟩ := hP
  have c1 : Steps p.tables e below (s₁.setTop (entryFrame m #[.ref b, .int (Int32.ofNat o), .ref d, .int (Int32.ofNat q), .int (Int32.ofNat len)] 7)) (s₁.setTop (mkF m 0 #[.val (.ref b), .val (.int (Int32.ofNat o)), .val (.ref d), .val (.int (Int32.ofNat q)), .val (.int (Int32.ofNat len)), .unset, .unset] [])) := entry rfl
  have hA0 := hA.1.mv X0.warmed.alike hh0
  have hB0 := hB.mv X0.warmed.alike hh0
  have a31 := hA.1.2.2.2
  have c2 : Steps p.tables e below (s₁.setTop (entryFrame m #[.ref b, .int (Int32.ofNat o), .ref d, .int (Int32.ofNat q), .int (Int32.ofNat len)] 7)) (s₁.setTop (mkF m 3 #[.val (.ref b), .val (.int (Int32.ofNat o)), .val (.ref d), .val (.int (Int32.ofNat q)), .val (.int (Int32.ofNat len)), .val (.int 0), .unset] [])) := c1.trans (by
    refine iconstV X0.here hexec rfl 0 (hb hbytes d0) (by decide) ?_
    refine XS.istore X0.here hexec rfl (hb hbytes d1) rfl rfl ?_
    exact Steps.refl _)
  have loop : ∀ (r i : Nat), i + r = len → ∀ (z : Slot), (z = .unset ∨ ∃ w, z = .val w ∧ w.category = 1) → ∀ (Tl : State) (Bk : Cell), Stand p l e { frames := 0, locals := 0, cells := 0, slots := 0 } s m #[.ref b, .int (Int32.ofNat o), .ref d, .int (Int32.ofNat q), .int (Int32.ofNat len)] below meth c Tl ([] ++ copyLocs d q i) 0 0 → Put d Bk s₁ Tl → Laid B Bk q (q + i) (fun j => Value.int (lo8 (cv A (o + (j - q))))) →
      Steps p.tables e below (s₁.setTop (entryFrame m #[.ref b, .int (Int32.ofNat o), .ref d, .int (Int32.ofNat q), .int (Int32.ofNat len)] 7)) (Tl.setTop (mkF m 3 #[.val (.ref b), .val (.int (Int32.ofNat (o + i))), .val (.ref d), .val (.int (Int32.ofNat (q + i))), .val (.int (Int32.ofNat len)), .val (.int (Int32.ofNat i)), z] [])) → ∃ (T' : State) (B' : Cell) (z' : Slot), Stand p l e { frames := 0, locals := 0, cells := 0, slots := 0 } s m #[.ref b, .int (Int32.ofNat o), .ref d, .int (Int32.ofNat q), .int (Int32.ofNat len)] below meth c T' ([] ++ copyLocs d q len) 0 0 ∧ Put d B' s₁ T' ∧ Laid B B' q (q + len) (fun j => Value.int (lo8 (cv A (o + (j - q))))) ∧
      Steps p.tables e below (s₁.setTop (entryFrame m #[.ref b, .int (Int32.ofNat o), .ref d, .int (Int32.ofNat q), .int (Int32.ofNat len)] 7)) (T'.setTop (mkF m 3 #[.val (.ref b), .val (.int (Int32.ofNat (o + len))), .val (.ref d), .val (.int (Int32.ofNat (q + len))), .val (.int (Int32.ofNat len)), .val (.int (Int32.ofNat len)), z'] [])) := by
    intro r
    induction r with
    | zero =>
      intro i hi z hz Tl Bk Xl pl fl cl
      have hil : i = len := by omega
      rw [hil] at Xl fl cl
      exact ⟨Tl, Bk, z, Xl, pl, fl, cl⟩
    | succ r ih =>
      intro i hi z hz Tl Bk Xl pl fl cl
      have all := X0.warmed.alike.symm.trans Xl.warmed.alike
      have hAl := hA0.keep all (pl.other hne hA0.1)
      have hBk := hB0.like all pl.1 fl.1 fl.2.1 fl.2.2.1
      have hlt : q + i < Bk.slots.size := by rw [fl.2.2.1]; omega
      have c3 : Steps p.tables e below (s₁.setTop (entryFrame m #[.ref b, .int (Int32.ofNat o), .ref d, .int (Int32.ofNat q), .int (Int32.ofNat len)] 7)) (Tl.setTop (mkF m 12 #[.val (.ref b), .val (.int (Int32.ofNat (o + i))), .val (.ref d), .val (.int (Int32.ofNat (q + i))), .val (.int (Int32.ofNat len)), .val (.int (Int32.ofNat i)), z] [.int (Int32.ofNat (o + i)), .ref b])) := cl.trans (by
        refine XS.iload Xl.here hexec rfl (hb hbytes d3) rfl ?_
        refine XS.iload Xl.here hexec rfl (hb hbytes d5) rfl ?_
        refine XS.icmpNo Xl.here hexec rfl (hb hbytes d7) rfl (ii_ge_f (lt32 (by omega) (by omega))) ?_
        refine XS.aloadN Xl.here hexec rfl (hb hbytes d10) rfl rfl ?_
        refine XS.iloadN Xl.here hexec rfl (hb hbytes d11) rfl ?_
        exact Steps.refl _)
      have c4 : Steps p.tables e below (s₁.setTop (entryFrame m #[.ref b, .int (Int32.ofNat o), .ref d, .int (Int32.ofNat q), .int (Int32.ofNat len)] 7)) (Tl.setTop (mkF m 13 #[.val (.ref b), .val (.int (Int32.ofNat (o + i))), .val (.ref d), .val (.int (Int32.ofNat (q + i))), .val (.int (Int32.ofNat len)), .val (.int (Int32.ofNat i)), z] [.int (cv A (o + i))])) := c3.trans (by
        refine Xl.aget hexec hAl rfl (hA.get (i := o + i) (by omega)) rfl rfl (hb hbytes d12) ?_
        exact Steps.refl _)
      have c5 : Steps p.tables e below (s₁.setTop (entryFrame m #[.ref b, .int (Int32.ofNat o), .ref d, .int (Int32.ofNat q), .int (Int32.ofNat len)] 7)) (Tl.setTop (mkF m 15 #[.val (.ref b), .val (.int (Int32.ofNat (o + i))), .val (.ref d), .val (.int (Int32.ofNat (q + i))), .val (.int (Int32.ofNat len)), .val (.int (Int32.ofNat i)), .val (.int (cv A (o + i)))] [])) := c4.trans (by
        refine XS.istoreS Xl.here hexec rfl (hb hbytes d13) rfl rfl hz ?_
        exact Steps.refl _)
      have c6 : Steps p.tables e below (s₁.setTop (entryFrame m #[.ref b, .int (Int32.ofNat o), .ref d, .int (Int32.ofNat q), .int (Int32.ofNat len)] 7)) (Tl.setTop (mkF m 31 #[.val (.ref b), .val (.int (Int32.ofNat (o + i))), .val (.ref d), .val (.int (Int32.ofNat (q + i))), .val (.int (Int32.ofNat len)), .val (.int (Int32.ofNat i)), .val (.int (cv A (o + i)))] [.int (lo8 (cv A (o + i))), .int (Int32.ofNat (q + i)), .ref d])) := c5.trans (by
        refine XS.iload Xl.here hexec rfl (hb hbytes d15) rfl ?_
        refine sipushV Xl.here hexec rfl 255 (hb hbytes d17) (by decide) ?_
        refine XS.icmpYes Xl.here hexec rfl (pc0 := 20) rfl (hb hbytes d20) rfl (ii_le_t (hp i (by omega))) (by decide) rfl ?_
        refine XS.aloadN Xl.here hexec rfl (hb hbytes d26) rfl rfl ?_
        refine XS.iloadN Xl.here hexec rfl (hb hbytes d27) rfl ?_
        refine XS.iload Xl.here hexec rfl (hb hbytes d28) rfl ?_
        refine i2b Xl.here hexec rfl (hb hbytes d30) rfl ?_
        exact Steps.refl _)
      obtain ⟨T7, X7, p7, st7⟩ := Xl.aput hexec hBk rfl hlt rfl (fits_lo8 (cv A (o + i))) (g := (mkF m 31 #[.val (.ref b), .val (.int (Int32.ofNat (o + i))), .val (.ref d), .val (.int (Int32.ofNat (q + i))), .val (.int (Int32.ofNat len)), .val (.int (Int32.ofNat i)), .val (.int (cv A (o + i)))] [.int (lo8 (cv A (o + i))), .int (Int32.ofNat (q + i)), .ref d])) rfl (rest := []) rfl (hb hbytes d31)
      have c8 : Steps p.tables e below (s₁.setTop (entryFrame m #[.ref b, .int (Int32.ofNat o), .ref d, .int (Int32.ofNat q), .int (Int32.ofNat len)] 7)) (T7.setTop (mkF m 32 #[.val (.ref b), .val (.int (Int32.ofNat (o + i))), .val (.ref d), .val (.int (Int32.ofNat (q + i))), .val (.int (Int32.ofNat len)), .val (.int (Int32.ofNat i)), .val (.int (cv A (o + i)))] [])) := c6.trans (st7 _ (Steps.refl _))
      have c9 : Steps p.tables e below (s₁.setTop (entryFrame m #[.ref b, .int (Int32.ofNat o), .ref d, .int (Int32.ofNat q), .int (Int32.ofNat len)] 7)) (T7.setTop (mkF m 3 #[.val (.ref b), .val (.int (Int32.ofNat (o + i) + 1)), .val (.ref d), .val (.int (Int32.ofNat (q + i) + 1)), .val (.int (Int32.ofNat len)), .val (.int (Int32.ofNat i + 1)), .val (.int (cv A (o + i)))] [])) := c8.trans (by
        refine iincV X7.here hexec rfl 1 (hb hbytes d32) (by decide) rfl rfl ?_
        refine iincV X7.here hexec rfl 1 (hb hbytes d35) (by decide) rfl rfl ?_
        refine iincV X7.here hexec rfl 1 (hb hbytes d38) (by decide) rfl rfl ?_
        refine XS.goto X7.here hexec rfl (pc0 := 41) rfl (hb hbytes d41) (by decide) rfl ?_
        exact Steps.refl _)
      have c10 : Steps p.tables e below (s₁.setTop (entryFrame m #[.ref b, .int (Int32.ofNat o), .ref d, .int (Int32.ofNat q), .int (Int32.ofNat len)] 7)) (T7.setTop (mkF m 3 #[.val (.ref b), .val (.int (Int32.ofNat (o + (i + 1)))), .val (.ref d), .val (.int (Int32.ofNat (q + (i + 1)))), .val (.int (Int32.ofNat len)), .val (.int (Int32.ofNat (i + 1))), .val (.int (cv A (o + i)))] [])) := by
        have := c9
        rw [succ32, succ32, succ32] at this
        exact this
      exact ih (i + 1) (by omega) _ (Or.inr ⟨_, rfl, rfl⟩) T7 _ (by rw [copyLocs_step, ← List.append_assoc]; exact X7) (pl.trans p7) (fl.step (by omega) hlt (by simp)) c10
  obtain ⟨T9, B9, z9, X9, p9, f9, g9⟩ := loop len 0 (by omega) .unset (Or.inl rfl) s₁ B (by simpa [copyLocs] using X0) ⟨hB0.1, fun _ _ => rfl, rfl⟩ (Laid.zero _ _ _) c2
  have c11 : Steps p.tables e below (s₁.setTop (entryFrame m #[.ref b, .int (Int32.ofNat o), .ref d, .int (Int32.ofNat q), .int (Int32.ofNat len)] 7)) (T9.setTop (mkF m 46 #[.val (.ref b), .val (.int (Int32.ofNat (o + len))), .val (.ref d), .val (.int (Int32.ofNat (q + len))), .val (.int (Int32.ofNat len)), .val (.int (Int32.ofNat len)), z9] [.int (Int32.ofNat len)])) := g9.trans (by
    refine XS.iload X9.here hexec rfl (hb hbytes d3) rfl ?_
    refine XS.iload X9.here hexec rfl (hb hbytes d5) rfl ?_
    refine XS.icmpYes X9.here hexec rfl (pc0 := 7) rfl (hb hbytes d7) rfl (ii_ge_t (nlt32 (by omega) (Nat.le_refl _))) (by decide) rfl ?_
    refine XS.iload X9.here hexec rfl (hb hbytes d44) rfl ?_
    exact Steps.refl _)
  exact ⟨T9, some (.int (Int32.ofNat len)), _, _, _, X9, by simp, rfl, rfl, (fun h => by cases h), ⟨rfl, B9, p9.from hh0, f9⟩, fun fs hl => c11.trans (X9.ireturnOut hexec hret rfl (Or.inl rfl) (hb hbytes d46) hl)⟩
end Cmp5
namespace Cmp3
def yN : MethodName := ⟨"java/lang/StringUTF16", "compress", "([CII)[B"⟩
abbrev yB : ByteArray := jdk_52_method_16_code
theorem d0 : decode yB 0 = .ok (.iload_n 2, 1) := by decide +kernel
theorem d1 : decode yB 1 = .ok (.newarray .byte, 2) := by decide +kernel
theorem d3 : decode yB 3 = .ok (.astore_n 3, 1) := by decide +kernel
theorem d4 : decode yB 4 = .ok (.aload_n 0, 1) := by decide +kernel
theorem d5 : decode yB 5 = .ok (.iload_n 1, 1) := by decide +kernel
theorem d6 : decode yB 6 = .ok (.aload_n 3, 1) := by decide +kernel
theorem d7 : decode yB 7 = .ok (.iconst 0, 1) := by decide +kernel
theorem d8 : decode yB 8 = .ok (.iload_n 2, 1) := by decide +kernel
theorem d9 : decode yB 9 = .ok (.invokestatic 115, 3) := by decide +kernel
theorem d12 : decode yB 12 = .ok (.istore 4, 2) := by decide +kernel
theorem d14 : decode yB 14 = .ok (.iload 4, 2) := by decide +kernel
theorem d16 : decode yB 16 = .ok (.iload_n 2, 1) := by decide +kernel
theorem d17 : decode yB 17 = .ok (.if_icmp (.eq) 40, 3) := by decide +kernel
theorem d57 : decode yB 57 = .ok (.aload_n 3, 1) := by decide +kernel
theorem d58 : decode yB 58 = .ok (.areturn, 1) := by decide +kernel
def site : List Cond := [.arrayClass .byte, Cmp5.tab] ++ staticW U16 115 Cmp5.yN
def tab : Cond := tabOf yN yB 6 (some (.array .byte)) site
def P (b : Addr) (A : Cell) (o len : Nat) (args : Array Value) (s : State) : Prop := args = #[.ref b, .int (Int32.ofNat o), .int (Int32.ofNat len)] ∧ Ch b A s ∧ o + len ≤ A.slots.size ∧ len ≤ 536870912 ∧ ∀ i, i < len → ¬ 255 < cv A (o + i)
def E (b : Addr) (A : Cell) (o len : Nat) (r : Option Value) (s u : State) : Prop := NewArr .byte "[B" len (fun j => .int (lo8 (cv A (o + j)))) r s u ∧ u.heap.size = s.heap.size + 1
/-- no char of the range above 255: a new byte[] of their low bytes -/
theorem law (l : Launch) (b : Addr) (A : Cell) (o len : Nat) : Law l yN 3 3 1 18 yB 6 (some (.array .byte)) site (P b A o len) (E b A o len) [] 1 len := by
  refine Law.of_walk (plainFor_of_name (by decide +kernel)) (by decide +kernel) (by decide +kernel) (by decide) (fun _ _ h => by rw [h.1]; rfl) (fun _ U U' hal hh h => ⟨h.1, h.2.1.mv hal hh, h.2.2⟩) (fun r U U' V V' h1 hal h2 h => ⟨NewArr.mv r U U' V V' h1 hal h2 h.1, by rw [h1, h2]; exact h.2⟩) ?_
  intro p e s m args below meth c s₁ X0 hexec hbytes hml hret hlk hnm hown hh0 W hP
  obtain ⟨rfl, hA, l1, l2, hp⟩ := hP
  have a31 := hA.1.2.2.2
  have c1 : Steps p.tables e below (s₁.setTop (entryFrame m #[.ref b, .int (Int32.ofNat o), .int (Int32.ofNat len)] 6)) (s₁.setTop (mkF m 0 #[.val (.ref b), .val (.int (Int32.ofNat o)), .val (.int (Int32.ofNat len)), .unset, .unset, .unset] [])) := entry rfl
  have c2 : Steps p.tables e below (s₁.setTop (entryFrame m #[.ref b, .int (Int32.ofNat o), .int (Int32.ofNat len)] 6)) (s₁.setTop (mkF m 1 #[.val (.ref b), .val (.int (Int32.ofNat o)), .val (.int (Int32.ofNat len)), .unset, .unset, .unset] [.int (Int32.ofNat len)])) := c1.trans (by
    refine XS.iloadN X0.here hexec rfl (hb hbytes d0) rfl ?_
    exact Steps.refl _)
  obtain ⟨T3, B3, X3, ba3, bs3, bv3, bh3, bf3, st3⟩ := X0.anew hexec (atype := .byte) (wk W (.arrayClass .byte)) rfl (by show len * 1 ≤ _; omega) (by omega) (g := (mkF m 1 #[.val (.ref b), .val (.int (Int32.ofNat o)), .val (.int (Int32.ofNat len)), .unset, .unset, .unset] [.int (Int32.ofNat len)])) rfl (hb hbytes d1) (rest := []) rfl (Nat.le_refl _) (by show 0 + len ≤ len; omega)
  rw [hh0] at ba3 st3
  have kp3 : XT.Kept s T3 := (XT.Kept.of_eq hh0).push bh3
  have hA3 := hA.keep X3.warmed.alike (kp3 _ _ hA.1.1)
  have hne : b ≠ s.heap.size := hA.1.ne
  have c4 : Steps p.tables e below (s₁.setTop (entryFrame m #[.ref b, .int (Int32.ofNat o), .int (Int32.ofNat len)] 6)) (T3.setTop (mkF m 3 #[.val (.ref b), .val (.int (Int32.ofNat o)), .val (.int (Int32.ofNat len)), .unset, .unset, .unset] [.ref s.heap.size])) := c2.trans (st3 _ (Steps.refl _))
  have c5 : Steps p.tables e below (s₁.setTop (entryFrame m #[.ref b, .int (Int32.ofNat o), .int (Int32.ofNat len)] 6)) (T3.setTop (mkF m 9 #[.val (.ref b), .val (.int (Int32.ofNat o)), .val (.int (Int32.ofNat len)), .val (.ref s.heap.size), .unset, .unset] [.int (Int32.ofNat len), .int 0, .ref s.heap.size, .int (Int32.ofNat o), .ref b])) := c4.trans (by
    refine XS.astoreN X3.here hexec rfl (hb hbytes d3) rfl rfl rfl ?_
    refine XS.aloadN X3.here hexec rfl (hb hbytes d4) rfl rfl ?_
    refine XS.iloadN X3.here hexec rfl (hb hbytes d5) rfl ?_
    refine XS.aloadN X3.here hexec rfl (hb hbytes d6) rfl rfl ?_
    refine iconstV X3.here hexec rfl 0 (hb hbytes d7) (by decide) ?_
    refine XS.iloadN X3.here hexec rfl (hb hbytes d8) rfl ?_
    exact Steps.refl _)
  obtain ⟨v6, T6, X6, E6, g6⟩ := X3.callS hexec (Cmp5.law l b A s.heap.size B3 o 0 len) hown (wks W (staticW U16 115 Cmp5.yN)) (wk W Cmp5.tab) (W := 0) (Nat.le_of_ble_eq_true rfl) (Nat.le_of_ble_eq_true rfl) (Nat.le_refl _) (by show 0 + len + 0 ≤ len; omega) (g := (mkF m 9 #[.val (.ref b), .val (.int (Int32.ofNat o)), .val (.int (Int32.ofNat len)), .val (.ref s.heap.size), .unset, .unset] [.int (Int32.ofNat len), .int (Int32.ofNat 0), .ref s.heap.size, .int (Int32.ofNat o), .ref b])) rfl (by rw [hml]; rfl) c5 (argsL := [.ref b, .int (Int32.ofNat o), .ref s.heap.size, .int (Int32.ofNat 0), .int (Int32.ofNat len)]) (rest := []) rfl rfl (by show 2 * 0 + 0 ≤ _; decide) (hb hbytes d9) (⟨rfl, hA3, ba3, hne, l1, by rw [bs3]; simp, hp⟩)
  obtain ⟨rfl, B6, p6, f6⟩ := E6
  have c7 : Steps p.tables e below (s₁.setTop (entryFrame m #[.ref b, .int (Int32.ofNat o), .int (Int32.ofNat len)] 6)) (T6.setTop (mkF m 12 #[.val (.ref b), .val (.int (Int32.ofNat o)), .val (.int (Int32.ofNat len)), .val (.ref s.heap.size), .unset, .unset] [.int (Int32.ofNat len)])) := g6
  have c8 : Steps p.tables e below (s₁.setTop (entryFrame m #[.ref b, .int (Int32.ofNat o), .int (Int32.ofNat len)] 6)) (T6.setTop (mkF m 58 #[.val (.ref b), .val (.int (Int32.ofNat o)), .val (.int (Int32.ofNat len)), .val (.ref s.heap.size), .val (.int (Int32.ofNat len)), .unset] [.ref s.heap.size])) := c7.trans (by
    refine XS.istore X6.here hexec rfl (hb hbytes d12) rfl rfl ?_
    refine XS.iload X6.here hexec rfl (hb hbytes d14) rfl ?_
    refine XS.iloadN X6.here hexec rfl (hb hbytes d16) rfl ?_
    refine XS.icmpYes X6.here hexec rfl (pc0 := 17) rfl (hb hbytes d17) rfl (ii_eq_t rfl) (by decide) rfl ?_
    refine XS.aloadN X6.here hexec rfl (hb hbytes d57) rfl rfl ?_
    exact Steps.refl _)
  have X8 := X6.wide (L' := []) (cells' := 1) (slots' := len) (fun x hx hlt => by
    simp only [List.nil_append, copyLocs, List.mem_map, List.mem_range] at hx
    obtain ⟨i, -, rfl⟩ := hx
    exact absurd hlt (Nat.lt_irrefl _)) (Nat.le_refl _) (by omega)
  exact ⟨T6, some (.ref s.heap.size), _, _, _, X8, rfl, rfl, rfl, (fun h => by cases h), ⟨⟨rfl, B6, ba3.like (X3.warmed.alike.symm.trans X6.warmed.alike) p6.1 f6.1 f6.2.1 f6.2.2.1, f6.2.1.trans bv3, by rw [X6.warmed.alike.findClass, f6.1]; exact bf3, by rw [f6.2.2.1, bs3]; simp, fun j hj => by rw [f6.2.2.2 j, if_pos (by omega)]; rfl, kp3.put p6 (Nat.le_refl _)⟩, by rw [p6.2.2, bh3, hh0]; simp⟩, fun fs hl => c8.trans (X8.areturnOut hexec rfl hret rfl (hb hbytes d58) hl)⟩
end Cmp3
namespace CodL
def yN : MethodName := ⟨"java/lang/StringUTF16", "coderFromArrayLen", "([BI)B"⟩
abbrev yB : ByteArray := jdk_52_method_15_code
theorem d0 : decode yB 0 = .ok (.iload_n 1, 1) := by decide +kernel
theorem d1 : decode yB 1 = .ok (.aload_n 0, 1) := by decide +kernel
theorem d2 : decode yB 2 = .ok (.arraylength, 1) := by decide +kernel
theorem d3 : decode yB 3 = .ok (.isub, 1) := by decide +kernel
theorem d4 : decode yB 4 = .ok (.bipush 31, 2) := by decide +kernel
theorem d6 : decode yB 6 = .ok (.iushr, 1) := by decide +kernel
theorem d7 : decode yB 7 = .ok (.i2b, 1) := by decide +kernel
theorem d8 : decode yB 8 = .ok (.ireturn, 1) := by decide +kernel
def site : List Cond := []
def tab : Cond := tabOf yN yB 2 (some .byte) site
def P (d : Addr) (B : Cell) (args : Array Value) (s : State) : Prop := args = #[.ref d, .int (Int32.ofNat B.slots.size)] ∧ Arr .byte d B s
def E (r : Option Value) (s u : State) : Prop := XT.PureE (some (.int 0)) r s u
/-- an array as long as the number of chars: LATIN1 -/
theorem law (l : Launch) (d : Addr) (B : Cell) : Law l yN 2 2 0 0 yB 2 (some .byte) site (P d B) E [] 0 0 := by
  refine Law.of_walk (plainFor_of_name (by decide +kernel)) (by decide +kernel) (by decide +kernel) (by decide) (fun _ _ h => by rw [h.1]; rfl) (fun _ U U' hal hh h => ⟨h.1, h.2.mv hal hh⟩) (fun r U U' V V' h1 hal h2 h => XT.PureE.mv r U U' V V' h1 hal h2 h) ?_
  intro p e s m args below meth c s₁ X0 hexec hbytes hml hret hlk hnm hown hh0 W hP
  obtain ⟨rfl, hB⟩ := hP
  have hB0 := hB.mv X0.warmed.alike hh0
  have c1 : Steps p.tables e below (s₁.setTop (entryFrame m #[.ref d, .int (Int32.ofNat B.slots.size)] 2)) (s₁.setTop (mkF m 0 #[.val (.ref d), .val (.int (Int32.ofNat B.slots.size))] [])) := entry rfl
  have c2 : Steps p.tables e below (s₁.setTop (entryFrame m #[.ref d, .int (Int32.ofNat B.slots.size)] 2)) (s₁.setTop (mkF m 2 #[.val (.ref d), .val (.int (Int32.ofNat B.slots.size))] [.ref d, .int (Int32.ofNat B.slots.size)])) := c1.trans (by
    refine XS.iloadN X0.here hexec rfl (hb hbytes d0) rfl ?_
    refine XS.aloadN X0.here hexec rfl (hb hbytes d1) rfl rfl ?_
    exact Steps.refl _)
  have c3 : Steps p.tables e below (s₁.setTop (entryFrame m #[.ref d, .int (Int32.ofNat B.slots.size)] 2)) (s₁.setTop (mkF m 8 #[.val (.ref d), .val (.int (Int32.ofNat B.slots.size))] [.int (lo8 (ushr (Int32.ofNat B.slots.size - Int32.ofNat B.slots.size) 31))])) := c2.trans (by
    refine X0.alen hexec hB0 rfl rfl (hb hbytes d2) ?_
    refine XS.isub X0.here hexec rfl (hb hbytes d3) rfl ?_
    refine bipushV X0.here hexec rfl 31 (hb hbytes d4) (by decide) ?_
    refine iushr X0.here hexec rfl (hb hbytes d6) rfl ?_
    refine i2b X0.here hexec rfl (hb hbytes d7) rfl ?_
    exact Steps.refl _)
  have e0 : lo8 (ushr (Int32.ofNat B.slots.size - Int32.ofNat B.slots.size) 31) = 0 := by rw [Int32.sub_self]; decide
  rw [e0] at c3
  exact ⟨s₁, some (.int 0), _, _, _, X0, rfl, rfl, rfl, (fun h => by cases h), ⟨rfl, hh0⟩, fun fs hl => c3.trans (X0.ireturnOut hexec hret rfl (Or.inr (Or.inr (Or.inl rfl))) (hb hbytes d8) hl)⟩
end CodL
/-- the String at a is Latin-1 over a new byte[] (the heap's one new cell): the low bytes of the len chars of A from o on; every cell but a is kept -/
def Got (a : Addr) (D : Cell) (fV fC : Field) (A : Cell) (o len : Nat) (r : Option Value) (s u : State) : Prop := r = none ∧ ∃ D' V : Cell, Blank "java/lang/String" a D' u ∧ Same D D' [fV.slot, fC.slot] ∧ D'.slots[fV.slot]? = some (.ref s.heap.size) ∧ D'.slots[fC.slot]? = some (.int 0) ∧ Arr .byte s.heap.size V u ∧ V.vm = .none ∧ u.vm.findClass "[B" = some V.cls ∧ V.slots.size = len ∧ (∀ j, j < len → V.slots[j]? = some (.int (lo8 (cv A (o + j))))) ∧ (∀ (y : Addr) (c : Cell), y ≠ a → s.heap[y]? = some c → u.heap[y]? = some c) ∧ u.heap.size = s.heap.size + 1
theorem Got.mv {a : Addr} {D A : Cell} {fV fC : Field} {o len : Nat} : ∀ r (U U' V V' : State), U'.heap = U.heap → V.vm.Alike V'.vm → V'.heap = V.heap → Got a D fV fC A o len r U V → Got a D fV fC A o len r U' V' :=
  fun r U U' V V' h1 hal h2 ⟨e0, D', X, a1, a2, a3, a4, a5, a6, a7, a8, a9, a10, a11⟩ => ⟨e0, D', X, a1.mv hal h2, a2, by rw [h1]; exact a3, a4, by rw [h1]; exact a5.mv hal h2, a6, by rw [hal.findClass]; exact a7, a8, a9, by rw [h1, h2]; exact a10, by rw [h1, h2]; exact a11⟩
namespace New4
def yN : MethodName := ⟨"java/lang/String", "<init>", "([CIILjava/lang/Void;)V"⟩
abbrev yB : ByteArray := jdk_42_method_149_code
theorem d0 : decode yB 0 = .ok (.aload_n 0, 1) := by decide +kernel
theorem d1 : decode yB 1 = .ok (.invokespecial 1, 3) := by decide +kernel
theorem d4 : decode yB 4 = .ok (.iload_n 3, 1) := by decide +kernel
theorem d5 : decode yB 5 = .ok (.ifCond (.ne) 22, 3) := by decide +kernel
theorem d27 : decode yB 27 = .ok (.getstatic 38, 3) := by decide +kernel
theorem d30 : decode yB 30 = .ok (.ifCond (.eq) 28, 3) := by decide +kernel
theorem d33 : decode yB 33 = .ok (.aload_n 1, 1) := by decide +kernel
theorem d34 : decode yB 34 = .ok (.iload_n 2, 1) := by decide +kernel
theorem d35 : decode yB 35 = .ok (.iload_n 3, 1) := by decide +kernel
theorem d36 : decode yB 36 = .ok (.invokestatic 177, 3) := by decide +kernel
theorem d39 : decode yB 39 = .ok (.astore 5, 2) := by decide +kernel
theorem d41 : decode yB 41 = .ok (.aload_n 0, 1) := by decide +kernel
theorem d42 : decode yB 42 = .ok (.aload 5, 2) := by decide +kernel
theorem d44 : decode yB 44 = .ok (.iload_n 3, 1) := by decide +kernel
theorem d45 : decode yB 45 = .ok (.invokestatic 47, 3) := by decide +kernel
theorem d48 : decode yB 48 = .ok (.putfield 15, 3) := by decide +kernel
theorem d51 : decode yB 51 = .ok (.aload_n 0, 1) := by decide +kernel
theorem d52 : decode yB 52 = .ok (.aload 5, 2) := by decide +kernel
theorem d54 : decode yB 54 = .ok (.putfield 9, 3) := by decide +kernel
theorem d57 : decode yB 57 = .ok (.return_, 1) := by decide +kernel
def site : List Cond := [.fieldLink "java/lang/String" 38 "java/lang/String" "COMPACT_STRINGS" "Z", Cmp3.tab, CodL.tab, .laysFinal "java/lang/String" "java/lang/String" "value" "[B", .fieldLink "java/lang/String" 9 "java/lang/String" "value" "[B", .laysFinal "java/lang/String" "java/lang/String" "coder" "B", .fieldLink "java/lang/String" 15 "java/lang/String" "coder" "B"] ++ objW "java/lang/String" 1 ++ staticW "java/lang/String" 177 Cmp3.yN ++ staticW "java/lang/String" 47 CodL.yN
def tab : Cond := tabOf yN yB 6 none site
def P (a : Addr) (D : Cell) (fV fC : Field) (b : Addr) (A : Cell) (z : Int32) (o len : Nat) (args : Array Value) (s : State) : Prop := args = #[.ref a, .ref b, .int (Int32.ofNat o), .int (Int32.ofNat len), .null] ∧ Blank "java/lang/String" a D s ∧ Found "java/lang/String" "value" "[B" fV s ∧ Found "java/lang/String" "coder" "B" fC s ∧ Ch b A s ∧ StaticIs s "java/lang/String" "COMPACT_STRINGS" "Z" (.int z) ∧ ¬ z = 0 ∧ 0 < len ∧ o + len ≤ A.slots.size ∧ len ≤ 536870912 ∧ ∀ i, i < len → ¬ 255 < cv A (o + i)
def E (a : Addr) (D : Cell) (fV fC : Field) (A : Cell) (o len : Nat) (r : Option Value) (s u : State) : Prop := Got a D fV fC A o len r s u
/-- len > 0, no char of the range above 255: a Latin-1 String of their low bytes -/
theorem law (l : Launch) (a : Addr) (D : Cell) (fV fC : Field) (b : Addr) (A : Cell) (z : Int32) (o len : Nat) : Law l yN 5 4 2 35 yB 6 none site (P a D fV fC b A z o len) (E a D fV fC A o len) [⟨a, fC.slot⟩, ⟨a, fV.slot⟩] 1 len := by
  refine Law.of_walk (plainFor_of_name (by decide +kernel)) (by decide +kernel) (by decide +kernel) (by decide) (fun _ _ h => by rw [h.1]; rfl) (fun _ U U' hal hh h => ⟨h.1, h.2.1.mv hal hh, h.2.2.1.al hal, h.2.2.2.1.al hal, h.2.2.2.2.1.mv hal hh, h.2.2.2.2.2.1.there hal hh, h.2.2.2.2.2.2⟩) (fun r U U' V V' h1 hal h2 h => Got.mv r U U' V V' h1 hal h2 h) ?_
  intro p e s m args below meth c s₁ X0 hexec hbytes hml hret hlk hnm hown hh0 W hP
  obtain ⟨rfl, hB, f1, f2, hA, s1, hz, l0, l1, l2, hp⟩ := hP
  have a31 := hA.1.2.2.2
  have c1 : Steps p.tables e below (s₁.setTop (entryFrame m #[.ref a, .ref b, .int (Int32.ofNat o), .int (Int32.ofNat len), .null] 6)) (s₁.setTop (mkF m 0 #[.val (.ref a), .val (.ref b), .val (.int (Int32.ofNat o)), .val (.int (Int32.ofNat len)), .val .null, .unset] [])) := entry rfl
  have c2 : Steps p.tables e below (s₁.setTop (entryFrame m #[.ref a, .ref b, .int (Int32.ofNat o), .int (Int32.ofNat len), .null] 6)) (s₁.setTop (mkF m 1 #[.val (.ref a), .val (.ref b), .val (.int (Int32.ofNat o)), .val (.int (Int32.ofNat len)), .val .null, .unset] [.ref a])) := c1.trans (by
    refine XS.aloadN X0.here hexec rfl (hb hbytes d0) rfl rfl ?_
    exact Steps.refl _)
  obtain ⟨T3, X3, q3, st3⟩ := X0.oinit hexec hown (wks W (objW "java/lang/String" 1)) (g := (mkF m 1 #[.val (.ref a), .val (.ref b), .val (.int (Int32.ofNat o)), .val (.int (Int32.ofNat len)), .val .null, .unset] [.ref a])) rfl (by rw [hml]; rfl) (rest := []) rfl (hb hbytes d1) (W := 0) (by show 2 * 0 + 0 ≤ _; decide) (Nat.le_of_ble_eq_true rfl) (Nat.le_of_ble_eq_true rfl)
  have hh3 := q3.trans hh0
  have c4 : Steps p.tables e below (s₁.setTop (entryFrame m #[.ref a, .ref b, .int (Int32.ofNat o), .int (Int32.ofNat len), .null] 6)) (T3.setTop (mkF m 27 #[.val (.ref a), .val (.ref b), .val (.int (Int32.ofNat o)), .val (.int (Int32.ofNat len)), .val .null, .unset] [])) := (c2.trans (st3 _ (Steps.refl _))).trans (by
    refine XS.iloadN X3.here hexec rfl (hb hbytes d4) rfl ?_
    refine XS.ifYes X3.here hexec rfl (pc0 := 5) rfl (hb hbytes d5) rfl (i0_ne_t (nz32 (by omega) l0)) (by decide) rfl ?_
    exact Steps.refl _)
  obtain ⟨T5, X5, q5, st5⟩ := X3.sget hexec hown (wk W (.fieldLink "java/lang/String" 38 "java/lang/String" "COMPACT_STRINGS" "Z")) s1 (fun _ _ h => by rw [hh3]; exact h) (g := (mkF m 27 #[.val (.ref a), .val (.ref b), .val (.int (Int32.ofNat o)), .val (.int (Int32.ofNat len)), .val .null, .unset] [])) rfl (hb hbytes d27)
  have hh5 := q5.trans hh3
  have c6 : Steps p.tables e below (s₁.setTop (entryFrame m #[.ref a, .ref b, .int (Int32.ofNat o), .int (Int32.ofNat len), .null] 6)) (T5.setTop (mkF m 30 #[.val (.ref a), .val (.ref b), .val (.int (Int32.ofNat o)), .val (.int (Int32.ofNat len)), .val .null, .unset] [.int z])) := c4.trans (st5 _ (Steps.refl _))
  have c7 : Steps p.tables e below (s₁.setTop (entryFrame m #[.ref a, .ref b, .int (Int32.ofNat o), .int (Int32.ofNat len), .null] 6)) (T5.setTop (mkF m 36 #[.val (.ref a), .val (.ref b), .val (.int (Int32.ofNat o)), .val (.int (Int32.ofNat len)), .val .null, .unset] [.int (Int32.ofNat len), .int (Int32.ofNat o), .ref b])) := c6.trans (by
    refine XS.ifNo X5.here hexec rfl (hb hbytes d30) rfl (i0_eq_f hz) ?_
    refine XS.aloadN X5.here hexec rfl (hb hbytes d33) rfl rfl ?_
    refine XS.iloadN X5.here hexec rfl (hb hbytes d34) rfl ?_
    refine XS.iloadN X5.here hexec rfl (hb hbytes d35) rfl ?_
    exact Steps.refl _)
  obtain ⟨v8, T8, X8, E8, g8⟩ := X5.callS hexec (Cmp3.law l b A o len) hown (wks W (staticW "java/lang/String" 177 Cmp3.yN)) (wk W Cmp3.tab) (W := 0) (Nat.le_of_ble_eq_true rfl) (Nat.le_of_ble_eq_true rfl) (Nat.le_refl _) (by show 0 + len ≤ len; omega) (g := (mkF m 36 #[.val (.ref a), .val (.ref b), .val (.int (Int32.ofNat o)), .val (.int (Int32.ofNat len)), .val .null, .unset] [.int (Int32.ofNat len), .int (Int32.ofNat o), .ref b])) rfl (by rw [hml]; rfl) c7 (argsL := [.ref b, .int (Int32.ofNat o), .int (Int32.ofNat len)]) (rest := []) rfl rfl (by show 2 * 0 + 0 ≤ _; decide) (hb hbytes d36) (⟨rfl, hA.mv X5.warmed.alike hh5, l1, l2, hp⟩)
  obtain ⟨e8, z8⟩ := E8
  obtain ⟨rfl, N, n1, n2, n3, n4, n5, n6⟩ := NewArr.mv _ T5 s _ _ hh5.symm (Vm.Alike.refl _) rfl e8
  rw [hh5] at z8
  have hB1 := hB.keep X8.warmed.alike (n6 _ _ hB.1)
  have hne : s.heap.size ≠ a := (Nat.ne_of_lt (Array.getElem?_eq_some_iff.mp hB.1).1).symm
  have c9 : Steps p.tables e below (s₁.setTop (entryFrame m #[.ref a, .ref b, .int (Int32.ofNat o), .int (Int32.ofNat len), .null] 6)) (T8.setTop (mkF m 39 #[.val (.ref a), .val (.ref b), .val (.int (Int32.ofNat o)), .val (.int (Int32.ofNat len)), .val .null, .unset] [.ref s.heap.size])) := g8
  have c10 : Steps p.tables e below (s₁.setTop (entryFrame m #[.ref a, .ref b, .int (Int32.ofNat o), .int (Int32.ofNat len), .null] 6)) (T8.setTop (mkF m 45 #[.val (.ref a), .val (.ref b), .val (.int (Int32.ofNat o)), .val (.int (Int32.ofNat len)), .val .null, .val (.ref s.heap.size)] [.int (Int32.ofNat N.slots.size), .ref s.heap.size, .ref a])) := by
    have hc : Steps p.tables e below (s₁.setTop (entryFrame m #[.ref a, .ref b, .int (Int32.ofNat o), .int (Int32.ofNat len), .null] 6)) (T8.setTop (mkF m 45 #[.val (.ref a), .val (.ref b), .val (.int (Int32.ofNat o)), .val (.int (Int32.ofNat len)), .val .null, .val (.ref s.heap.size)] [.int (Int32.ofNat len), .ref s.heap.size, .ref a])) := c9.trans (by
      refine XS.astore X8.here hexec rfl (hb hbytes d39) rfl rfl rfl ?_
      refine XS.aloadN X8.here hexec rfl (hb hbytes d41) rfl rfl ?_
      refine XS.aload X8.here hexec rfl (hb hbytes d42) rfl rfl ?_
      refine XS.iloadN X8.here hexec rfl (hb hbytes d44) rfl ?_
      exact Steps.refl _)
    rw [n4]; exact hc
  obtain ⟨v11, T11, X11, E11, g11⟩ := X8.callS hexec (CodL.law l s.heap.size N) hown (wks W (staticW "java/lang/String" 47 CodL.yN)) (wk W CodL.tab) (W := 1) (Nat.le_of_ble_eq_true rfl) (Nat.le_of_ble_eq_true rfl) (Nat.le_refl _) (by show 0 + len + 0 ≤ len; omega) (g := (mkF m 45 #[.val (.ref a), .val (.ref b), .val (.int (Int32.ofNat o)), .val (.int (Int32.ofNat len)), .val .null, .val (.ref s.heap.size)] [.int (Int32.ofNat N.slots.size), .ref s.heap.size, .ref a])) rfl (by rw [hml]; rfl) c10 (argsL := [.ref s.heap.size, .int (Int32.ofNat N.slots.size)]) (rest := [.ref a]) rfl rfl (by show 2 * 0 + (1 + 0) ≤ _; decide) (hb hbytes d45) (⟨rfl, n1⟩)
  obtain ⟨rfl, q11⟩ := E11
  have hB11 := hB1.mv (X8.warmed.alike.symm.trans X11.warmed.alike) q11
  have c12 : Steps p.tables e below (s₁.setTop (entryFrame m #[.ref a, .ref b, .int (Int32.ofNat o), .int (Int32.ofNat len), .null] 6)) (T11.setTop (mkF m 48 #[.val (.ref a), .val (.ref b), .val (.int (Int32.ofNat o)), .val (.int (Int32.ofNat len)), .val .null, .val (.ref s.heap.size)] [.int 0, .ref a])) := g11
  obtain ⟨T13, X13, p13, bl13, sl13, st13⟩ := X11.finit hexec hown (wk W (.fieldLink "java/lang/String" 15 "java/lang/String" "coder" "B")) (Or.inr ⟨_, (wk W (.laysFinal "java/lang/String" "java/lang/String" "coder" "B"))⟩) (Or.inl ⟨rfl, hnm⟩) f2 (Or.inl rfl) hB11 (t := .byte) (by decide +kernel) rfl (g := (mkF m 48 #[.val (.ref a), .val (.ref b), .val (.int (Int32.ofNat o)), .val (.int (Int32.ofNat len)), .val .null, .val (.ref s.heap.size)] [.int 0, .ref a])) rfl (rest := []) rfl (hb hbytes d48)
  have c14 : Steps p.tables e below (s₁.setTop (entryFrame m #[.ref a, .ref b, .int (Int32.ofNat o), .int (Int32.ofNat len), .null] 6)) (T13.setTop (mkF m 54 #[.val (.ref a), .val (.ref b), .val (.int (Int32.ofNat o)), .val (.int (Int32.ofNat len)), .val .null, .val (.ref s.heap.size)] [.ref s.heap.size, .ref a])) := (c12.trans (st13 _ (Steps.refl _))).trans (by
    refine XS.aloadN X13.here hexec rfl (hb hbytes d51) rfl rfl ?_
    refine XS.aload X13.here hexec rfl (hb hbytes d52) rfl rfl ?_
    exact Steps.refl _)
  obtain ⟨T15, X15, p15, bl15, sl15, st15⟩ := X13.finit hexec hown (wk W (.fieldLink "java/lang/String" 9 "java/lang/String" "value" "[B")) (Or.inr ⟨_, (wk W (.laysFinal "java/lang/String" "java/lang/String" "value" "[B"))⟩) (Or.inl ⟨rfl, hnm⟩) f1 (Or.inl rfl) bl13 (t := (.array .byte)) (by decide +kernel) rfl (g := (mkF m 54 #[.val (.ref a), .val (.ref b), .val (.int (Int32.ofNat o)), .val (.int (Int32.ofNat len)), .val .null, .val (.ref s.heap.size)] [.ref s.heap.size, .ref a])) rfl (rest := []) rfl (hb hbytes d54)
  have c16 : Steps p.tables e below (s₁.setTop (entryFrame m #[.ref a, .ref b, .int (Int32.ofNat o), .int (Int32.ofNat len), .null] 6)) (T15.setTop (mkF m 57 #[.val (.ref a), .val (.ref b), .val (.int (Int32.ofNat o)), .val (.int (Int32.ofNat len)), .val .null, .val (.ref s.heap.size)] [])) := c14.trans (st15 _ (Steps.refl _))
  have ap := apart (Or.inr ⟨_, (wk W (.laysFinal "java/lang/String" "java/lang/String" "value" "[B"))⟩) (Or.inr ⟨_, (wk W (.laysFinal "java/lang/String" "java/lang/String" "coder" "B"))⟩) f1 f2 (t₁ := .array .byte) (t₂ := .byte) (by decide +kernel) (by decide +kernel) (by decide)
  have al := X8.warmed.alike.symm.trans X15.warmed.alike
  have n7 : T11.heap[s.heap.size]? = some N := by rw [q11]; exact n1.1
  exact ⟨T15, none, _, _, _, X15, by simp, rfl, by omega, (fun _ => rfl), ⟨rfl, _, N, bl15, ((Same.refl D _).set _ (by simp)).set _ (by simp), sl15, (Cell.slots_setSlot_ne _ ap).trans sl13, n1.keep al (p15.other hne (p13.other hne n7)), n2, by rw [al.findClass]; exact n3, n4, n5, fun y c h1 h2 => p15.other h1 (p13.other h1 (by rw [q11]; exact n6 y c h2)), by rw [p15.2.2, p13.2.2, q11]; exact z8⟩, fun fs hl => c16.trans (X15.returnOut hexec hret (hb hbytes d57) hl)⟩
end New4
namespace New1
def yN : MethodName := ⟨"java/lang/String", "<init>", "([C)V"⟩
abbrev yB : ByteArray := jdk_42_method_3_code
theorem d0 : decode yB 0 = .ok (.aload_n 0, 1) := by decide +kernel
theorem d1 : decode yB 1 = .ok (.aload_n 1, 1) := by decide +kernel
theorem d2 : decode yB 2 = .ok (.iconst 0, 1) := by decide +kernel
theorem d3 : decode yB 3 = .ok (.aload_n 1, 1) := by decide +kernel
theorem d4 : decode yB 4 = .ok (.arraylength, 1) := by decide +kernel
theorem d5 : decode yB 5 = .ok (.aconst_null, 1) := by decide +kernel
theorem d6 : decode yB 6 = .ok (.invokespecial 27, 3) := by decide +kernel
theorem d9 : decode yB 9 = .ok (.return_, 1) := by decide +kernel
def site : List Cond := [New4.tab] ++ initW "java/lang/String" 27 New4.yN
def tab : Cond := tabOf yN yB 2 none site
def P (a : Addr) (D : Cell) (fV fC : Field) (b : Addr) (A : Cell) (z : Int32) (args : Array Value) (s : State) : Prop := args = #[.ref a, .ref b] ∧ Blank "java/lang/String" a D s ∧ Found "java/lang/String" "value" "[B" fV s ∧ Found "java/lang/String" "coder" "B" fC s ∧ Ch b A s ∧ StaticIs s "java/lang/String" "COMPACT_STRINGS" "Z" (.int z) ∧ ¬ z = 0 ∧ 0 < A.slots.size ∧ A.slots.size ≤ 536870912 ∧ ∀ i, i < A.slots.size → ¬ 255 < cv A i
def E (a : Addr) (D : Cell) (fV fC : Field) (A : Cell) (r : Option Value) (s u : State) : Prop := Got a D fV fC A 0 A.slots.size r s u
/-- new String(chars), not empty, no char above 255: a Latin-1 String of their low bytes -/
theorem law (l : Launch) (a : Addr) (D : Cell) (fV fC : Field) (b : Addr) (A : Cell) (z : Int32) : Law l yN 2 1 3 52 yB 2 none site (P a D fV fC b A z) (E a D fV fC A) [⟨a, fC.slot⟩, ⟨a, fV.slot⟩] 1 A.slots.size := by
  refine Law.of_walk (plainFor_of_name (by decide +kernel)) (by decide +kernel) (by decide +kernel) (by decide) (fun _ _ h => by rw [h.1]; rfl) (fun _ U U' hal hh h => ⟨h.1, h.2.1.mv hal hh, h.2.2.1.al hal, h.2.2.2.1.al hal, h.2.2.2.2.1.mv hal hh, h.2.2.2.2.2.1.there hal hh, h.2.2.2.2.2.2⟩) (fun r U U' V V' h1 hal h2 h => Got.mv r U U' V V' h1 hal h2 h) ?_
  intro p e s m args below meth c s₁ X0 hexec hbytes hml hret hlk hnm hown hh0 W hP
  obtain ⟨rfl, hB, f1, f2, hA, s1, hz, l0, l2, hp⟩ := hP
  have c1 : Steps p.tables e below (s₁.setTop (entryFrame m #[.ref a, .ref b] 2)) (s₁.setTop (mkF m 0 #[.val (.ref a), .val (.ref b)] [])) := entry rfl
  have c2 : Steps p.tables e below (s₁.setTop (entryFrame m #[.ref a, .ref b] 2)) (s₁.setTop (mkF m 6 #[.val (.ref a), .val (.ref b)] [.null, .int (Int32.ofNat A.slots.size), .int 0, .ref b, .ref a])) := c1.trans (by
    refine XS.aloadN X0.here hexec rfl (hb hbytes d0) rfl rfl ?_
    refine XS.aloadN X0.here hexec rfl (hb hbytes d1) rfl rfl ?_
    refine iconstV X0.here hexec rfl 0 (hb hbytes d2) (by decide) ?_
    refine XS.aloadN X0.here hexec rfl (hb hbytes d3) rfl rfl ?_
    refine X0.alen hexec (hA.1.mv X0.warmed.alike hh0) rfl rfl (hb hbytes d4) ?_
    refine XS.aconstNull X0.here hexec rfl (hb hbytes d5) ?_
    exact Steps.refl _)
  obtain ⟨v3, T3, X3, E3, g3⟩ := X0.callN hexec (New4.law l a D fV fC b A z 0 A.slots.size) rfl hown (wks W (initW "java/lang/String" 27 New4.yN)) (W New4.tab (by simp only [site, List.mem_cons, List.mem_append, true_or, or_true])) (W := 0) (Nat.le_of_ble_eq_true rfl) (Nat.le_of_ble_eq_true rfl) (Nat.le_refl _) (by show 0 + A.slots.size ≤ A.slots.size; omega) (g := (mkF m 6 #[.val (.ref a), .val (.ref b)] [.null, .int (Int32.ofNat A.slots.size), .int (Int32.ofNat 0), .ref b, .ref a])) rfl (by rw [hml]; rfl) c2 (argsL := [.ref b, .int (Int32.ofNat 0), .int (Int32.ofNat A.slots.size), .null]) (rest := []) rfl rfl (by show 2 * 0 + 0 ≤ _; decide) (hb hbytes d6) (⟨rfl, hB.mv X0.warmed.alike hh0, f1.al X0.warmed.alike, f2.al X0.warmed.alike, hA.mv X0.warmed.alike hh0, s1.there X0.warmed.alike hh0, hz, l0, by omega, l2, fun i hi => by rw [Nat.zero_add]; exact hp i hi⟩)
  have e0 := Got.mv _ s₁ s _ _ hh0.symm (Vm.Alike.refl _) rfl E3
  obtain rfl := e0.1
  have c4 : Steps p.tables e below (s₁.setTop (entryFrame m #[.ref a, .ref b] 2)) (T3.setTop (mkF m 9 #[.val (.ref a), .val (.ref b)] [])) := g3
  exact ⟨T3, none, _, _, _, X3, by simp, rfl, by omega, (fun _ => rfl), e0, fun fs hl => c4.trans (X3.returnOut hexec hret (hb hbytes d9) hl)⟩
theorem pays {l : Launch} {R : Room} {p : Program} {e : Env} {below : List Frame} {s : State} {sargs : Array Value} {len W : Nat} (a : Addr) (D : Cell) (fV fC : Field) (b : Addr) (A : Cell) (z : Int32) (htab : tab.before sargs s = true) (hfr : 4 ≤ R.frames) (hlo : W + 65 ≤ R.locals) :
    Back l R p e below s sargs yN len W (fun A₁ a₁ => A₁.cells + 1 ≤ R.cells ∧ A₁.slots + A.slots.size ≤ R.slots ∧ P a D fV fC b A z a₁ A₁.U) (fun A₁ _ v₁ B₁ => E a D fV fC A v₁ A₁.U B₁.U ∧ B₁.locs = A₁.locs ++ [⟨a, fC.slot⟩, ⟨a, fV.slot⟩] ∧ B₁.cells = A₁.cells + 1 ∧ B₁.slots = A₁.slots + A.slots.size) :=
  (law l a D fV fC b A z).pays htab hfr (by omega)
end New1
/-- the byte, read back as charAt reads it, is the char -/
theorem lo8_mask {x : Int32} (h0 : ¬ x < 0) (h1 : ¬ 255 < x) : lo8 x &&& 255 = x := by
  have t : ∀ k : Fin 256, lo8 (Int32.ofNat k.val) &&& 255 = Int32.ofNat k.val := by decide +kernel
  rw [Int32.lt_iff_toInt_lt] at h0 h1
  have e0 : (0 : Int32).toInt = 0 := rfl
  have e1 : (255 : Int32).toInt = 255 := rfl
  obtain ⟨k, hk⟩ : ∃ k : Nat, x.toInt = k := ⟨x.toInt.toNat, by omega⟩
  have hx : x = Int32.ofNat k := Int32.toInt_inj.mp (by rw [hk, Int32.toInt_ofNat_small (by omega)])
  rw [hx]
  exact t ⟨k, by omega⟩
end StrChars
namespace StrChars.Road
open Jvm Sem ClassFile Op Lib Jvm.Stand Jvm.Free Jvm.Free.XT
open Jvm.Lib.Cold (StaticIs)
abbrev ST : String := "java/lang/String"
/-- every table word that New1's law asks, flat -/
abbrev words : List Jvm.Cond := [.code New1.yN New1.yB 2 none, .initialized ST, .methodLink ST 27 New4.yN, .instanceMethod New4.yN,
  .code New4.yN New4.yB 6 none, .fieldLink ST 38 ST "COMPACT_STRINGS" "Z", .laysFinal ST ST "value" "[B", .fieldLink ST 9 ST "value" "[B", .laysFinal ST ST "coder" "B", .fieldLink ST 15 ST "coder" "B",
  .methodLink ST 1 Lib.objectInit, .instanceMethod Lib.objectInit, .code Lib.objectInit ⟨#[0xb1]⟩ 1 none, .methodLink ST 177 Cmp3.yN, .static Cmp3.yN, .methodLink ST 47 CodL.yN, .static CodL.yN,
  .code Cmp3.yN Cmp3.yB 6 (some (.array .byte)), .initialized U16, .arrayClass .byte, .methodLink U16 115 Cmp5.yN, .static Cmp5.yN, .code Cmp5.yN Cmp5.yB 7 (some .int), .code CodL.yN CodL.yB 2 (some .byte)]
theorem tab_of {a : Array Value} {s : State} (h : ∀ w ∈ words, w.before a s = true) : New1.tab.before a s = true := by
  have h5 : Cmp5.tab.before a s = true := unparts (wk h (.code Cmp5.yN Cmp5.yB 7 (some .int))) (wks h (.initialized Cmp5.yN.cls :: Cmp5.site))
  have hc : CodL.tab.before a s = true := unparts (wk h (.code CodL.yN CodL.yB 2 (some .byte))) (wks h (.initialized CodL.yN.cls :: CodL.site))
  have q5 : ∀ w ∈ Cmp5.tab :: words, w.before a s = true := fun w hw => (List.mem_cons.mp hw).elim (fun e => e ▸ h5) (h w)
  have h3 : Cmp3.tab.before a s = true := unparts (wk q5 (.code Cmp3.yN Cmp3.yB 6 (some (.array .byte)))) (wks q5 (.initialized Cmp3.yN.cls :: Cmp3.site))
  have q3 : ∀ w ∈ Cmp3.tab :: CodL.tab :: words, w.before a s = true := fun w hw => (List.mem_cons.mp hw).elim (fun e => e ▸ h3) fun hw => (List.mem_cons.mp hw).elim (fun e => e ▸ hc) (h w)
  have h4 : New4.tab.before a s = true := unparts (wk q3 (.code New4.yN New4.yB 6 none)) (wks q3 (.initialized New4.yN.cls :: New4.site))
  have q4 : ∀ w ∈ New4.tab :: words, w.before a s = true := fun w hw => (List.mem_cons.mp hw).elim (fun e => e ▸ h4) (h w)
  exact unparts (wk q4 (.code New1.yN New1.yB 2 none)) (wks q4 (.initialized New1.yN.cls :: New1.site))
/-- the words ride from the start Z to the walk's own state -/
theorem moved {Z s : State} {a0 args : Array Value} (hZ : Z.Warmed39 s.vm) (hw : ∀ d ∈ words, d.before a0 Z = true) : ∀ d ∈ words, d.before args s = true := fun d hd => by
  have q := hw d hd
  have t : ∀ d ∈ words, d = .arrayClass .byte ∨ (d.onTables && d.keepsFace) = true := by decide +kernel
  rcases t d hd with rfl | t
  · exact RoadKit.mvA hZ q
  · exact RoadKit.mv hZ q t
/-- WHAT COMES BACK, over the tables of the start Z: h the heap at the call, h' behind it -/
def Q (Z : State) (x : Addr) (A : Cell) (h : Heap) (v : Option Value) (h' : Heap) (L : List Loc) : Prop := v = none ∧ (∀ y ∈ L, y.base = x) ∧ RoadKit.Keep h h' [x] ∧ h'.size = h.size + 1 ∧ RoadKit.Exa Z h' x ST ∧ RoadKit.Fld Z h' x ST "value" "[B" (.ref h.size) ∧ RoadKit.Fld Z h' x ST "coder" "B" (.int 0) ∧
  (∃ V : Cell, RoadKit.Arr Z h' h.size V .byte ∧ V.vm = .none ∧ Z.vm.findClass "[B" = some V.cls ∧ V.slots.size = A.slots.size ∧ ∀ j, j < A.slots.size → V.slots[j]? = some (.int (lo8 (cv A j)))) ∧
  ∀ (O n d : String) (w : Value), RoadKit.Fld Z h x O n d w → RoadKit.slotOf Z O n d ≠ RoadKit.slotOf Z ST "value" "[B" → RoadKit.slotOf Z O n d ≠ RoadKit.slotOf Z ST "coder" "B" → RoadKit.Fld Z h' x O n d w
/-- **new String(chars) AT A CALL, IN THE ROAD'S FORM**: for specialBack behind newO: x the fresh String, b the char[] with the cell A -/
theorem back {p : Program} {l : Launch} {e : Env} {R : Room} {s : State} {args : Array Value} {below : List Frame} {len W : Nat} {Z : State} {a0 : Array Value} {h : Heap} (hZ : Z.Warmed39 s.vm) (hw : ∀ d ∈ words, d.before a0 Z = true) {kI : Nat} (wi : (Jvm.Cond.instantiable ST kI).before a0 Z = true)
    {x b : Addr} {A : Cell} {z : Int32} {v0 c0 : Value} (E : RoadKit.Exa Z h x ST) (V : RoadKit.Fld Z h x ST "value" "[B" v0) (C : RoadKit.Fld Z h x ST "coder" "B" c0) (K : RoadKit.Arr Z h b A .char) (hty : Typed .char A) (S : RoadKit.Sta Z h ST "COMPACT_STRINGS" "Z" (.int z)) (hz : ¬ z = 0)
    (l0 : 0 < A.slots.size) (l2 : A.slots.size ≤ 536870912) (hp : ∀ i, i < A.slots.size → ¬ 255 < cv A i) (hfr : 4 ≤ R.frames) (hlo : W + 65 ≤ R.locals) :
    Back l R p e below s args New1.yN len W (fun P a => a = #[.ref x, .ref b] ∧ P.U.heap = h ∧ P.cells + 1 ≤ R.cells ∧ P.slots + A.slots.size ≤ R.slots)
      (fun P _ v B => ∃ L, Q Z x A h v B.U.heap L ∧ B.locs = P.locs ++ L ∧ B.cells = P.cells + 1 ∧ B.slots = P.slots + A.slots.size) := by
  intro m meth c P g ig mk a X hg hsize hdg hW hn hp'
  obtain ⟨rfl, rfl, r1, r2⟩ := hp'
  have al : Z.vm.Alike P.U.vm := hZ.alike.trans X.warmed.alike
  obtain ⟨D, cfV, kV, iV, fV, hD, gV, stV, knV, obV, asV, slV⟩ := id V
  obtain ⟨D', cfC, kC, iC, fC, hD', gC, stC, -, -, asC, slC⟩ := id C
  cases hD.symm.trans hD'
  obtain ⟨D2, kD, e1, e2, e3, e4, e5⟩ := id E
  cases hD.symm.trans e1
  obtain ⟨c2, k2, i1, i2, i3, -⟩ := Cond.instantiable_spec wi
  cases e2.symm.trans i1
  cases e3.symm.trans i2
  obtain ⟨kU, u1, u2⟩ := al.2.2 _ _ e3
  have hB : Blank ST x D P.U := ⟨hD, ⟨knV, fun q hq => by rw [hq] at obV; cases obV⟩, by rw [al.findClass]; exact e2, kU, u1, by rw [u2]; exact i3, by rw [u2]; exact e5 i3⟩
  have F1 : Found ST "value" "[B" fV P.U := ⟨SBG.found_only al ⟨cfV, kV, iV, gV⟩, stV⟩
  have F2 : Found ST "coder" "B" fC P.U := ⟨SBG.found_only al ⟨cfC, kC, iC, gC⟩, stC⟩
  have hA : Ch b A P.U := ⟨⟨K.1, State.isArrayOf_alike al K.2.1, K.2.2, by omega⟩, hty⟩
  have hS : StaticIs P.U ST "COMPACT_STRINGS" "Z" (.int z) := by
    obtain ⟨cfS, iS, kS, fS, st, cS, t1, t2, t3, t4, t5, t6, t7⟩ := S
    exact StaticIs.there (s := { Z with heap := P.U.heap }) ⟨cfS, iS, kS, fS, st, cS, t1, t2, t3, t4, t5, (fun q => by rw [q] at t6; cases t6), t7⟩ al rfl
  obtain ⟨v, B, X', ⟨⟨hv, E', V', q1, q2, q3, q4, q5, q6, q7, q8, q9, q10, q11⟩, hl, hc, hs⟩, st⟩ := New1.pays x D fV fC b A z (tab_of (moved hZ hw)) hfr hlo m meth c P g ig mk _ X hg hsize hdg hW hn ⟨r1, r2, rfl, hB, F1, F2, hA, hS, hz, l0, l2, hp⟩
  have al' : Z.vm.Alike B.U.vm := hZ.alike.trans X'.warmed.alike
  have hsz : E'.slots.size = D.slots.size := by
    obtain ⟨-, -, -, kB, w1, w2, w3⟩ := q1
    obtain ⟨kB', y1, y2⟩ := al'.2.2 _ _ e3
    rw [q2.2.1] at w1
    cases w1.symm.trans y1
    rw [w3, e5 i3, y2]
  refine ⟨v, B, X', ⟨_, ⟨hv, ?_, ⟨by omega, fun y cy hy hn' => q10 y cy (by simpa using hn') hy, fun y cy hy => ?_⟩, q11, ⟨E', _, q1.1, by rw [q2.2.1]; exact e2, by rw [q2.2.1]; exact e3, by rw [q2.1]; exact obV, fun _ => by rw [hsz]; exact e5 i3⟩,
    ⟨E', cfV, kV, iV, fV, q1.1, gV, stV, by rw [q2.1]; exact knV, by rw [q2.1]; exact obV, by rw [q2.2.1]; exact asV, q3⟩, ⟨E', cfC, kC, iC, fC, q1.1, gC, stC, by rw [q2.1]; exact knV, by rw [q2.1]; exact obV, by rw [q2.2.1]; exact asC, q4⟩,
    ⟨V', ⟨q5.1, State.isArrayOf_alike al'.symm q5.2.1, q5.2.2.1⟩, q6, by rw [← al'.findClass]; exact q7, q8, fun j hj => by have := q9 j hj; rwa [Nat.zero_add] at this⟩, fun O n d w F n1 n2 => ?_⟩, hl, hc, hs⟩, st⟩
  · intro y hy
    simp only [List.mem_cons, List.not_mem_nil, or_false] at hy
    rcases hy with rfl | rfl <;> rfl
  · by_cases q : y = x
    · subst q
      cases hD.symm.trans hy
      exact ⟨E', q1.1, q2.2.1, q2.1, hsz⟩
    · exact ⟨cy, q10 y cy q hy, rfl, rfl, rfl⟩
  · obtain ⟨D3, cf, k, i, f, g1, g2, g3, g4, g5, g6, g7⟩ := F
    cases hD.symm.trans g1
    simp only [RoadKit.slotOf, g2, gV, gC, Option.map_some, Option.getD_some] at n1 n2
    exact ⟨E', cf, k, i, f, q1.1, g2, g3, by rw [q2.1]; exact g4, by rw [q2.1]; exact g5, by rw [q2.2.1]; exact g6, by rw [q2.2.2 f.slot (by simp [n1, n2])]; exact g7⟩
end StrChars.Road
namespace StrChars.Road
open Jvm Sem ClassFile Op Lib Jvm.Stand Jvm.Free Jvm.Free.XT
/-- WHAT COMES BACK, the byte[] as a list of values -/
def QA (Z : State) (x : Addr) (zn : Int32) (cs : List Int32) (h : Heap) (v : Option Value) (h' : Heap) (L : List Loc) : Prop := v = none ∧ (∀ y ∈ L, y.base = x) ∧ RoadKit.Keep h h' [x] ∧ h'.size = h.size + 1 ∧ RoadKit.Exa Z h' x ST ∧ RoadKit.Fld Z h' x ST "value" "[B" (.ref h.size) ∧ RoadKit.Fld Z h' x ST "coder" "B" (.int 0) ∧
  (∃ kb, Z.vm.findClass "[B" = some kb ∧ RoadKit.Arv Z h' h.size kb .byte zn (cs.map fun c => .int (lo8 c)) (.int 0)) ∧
  ∀ (O n d : String) (w : Value), RoadKit.Fld Z h x O n d w → RoadKit.slotOf Z O n d ≠ RoadKit.slotOf Z ST "value" "[B" → RoadKit.slotOf Z O n d ≠ RoadKit.slotOf Z ST "coder" "B" → RoadKit.Fld Z h' x O n d w
/-- **new String(chars) AT A CALL, THE ARRAYS AS LISTS**: the char[] at b holds cs, not empty, no char above 255 -/
theorem backArv {p : Program} {l : Launch} {e : Env} {R : Room} {s : State} {args : Array Value} {below : List Frame} {len W : Nat} {Z : State} {a0 : Array Value} {h : Heap} (hZ : Z.Warmed39 s.vm) (hw : ∀ d ∈ words, d.before a0 Z = true) {kI : Nat} (wi : (Jvm.Cond.instantiable ST kI).before a0 Z = true)
    {x b : Addr} {k : ClassId} {zn z : Int32} {cs : List Int32} {dv v0 c0 : Value} (E : RoadKit.Exa Z h x ST) (V : RoadKit.Fld Z h x ST "value" "[B" v0) (C : RoadKit.Fld Z h x ST "coder" "B" c0) (K : RoadKit.Arv Z h b k .char zn (cs.map Value.int) dv) (S : RoadKit.Sta Z h ST "COMPACT_STRINGS" "Z" (.int z)) (hz : ¬ z = 0)
    (hlen : zn.toNatClampNeg = cs.length) (h0 : 0 < cs.length) (hbig : cs.length ≤ 536870912) (hall : ∀ c ∈ cs, ¬ 255 < c) (hfr : 4 ≤ R.frames) (hlo : W + 65 ≤ R.locals) :
    Back l R p e below s args New1.yN len W (fun P a => a = #[.ref x, .ref b] ∧ P.U.heap = h ∧ P.cells + 1 ≤ R.cells ∧ P.slots + cs.length ≤ R.slots)
      (fun P _ v B => ∃ L, QA Z x zn cs h v B.U.heap L ∧ B.locs = P.locs ++ L ∧ B.cells = P.cells + 1 ∧ B.slots = P.slots + cs.length) := by
  obtain ⟨A, K1, K2, K3, K4, K5, K6⟩ := K
  have e : A.slots.size = cs.length := K3.trans hlen
  have hat : ∀ (i : Nat) (hi : i < cs.length), A.slots[i]? = some (.int cs[i]) := fun i hi => by rw [K5 i (by omega)]; simp [List.getD_eq_getElem?_getD, hi]
  have hcv : ∀ (i : Nat) (hi : i < cs.length), cv A i = cs[i] := fun i hi => by unfold cv; rw [hat i hi]
  have hty : Typed .char A := fun i v hv => by
    have hi : i < A.slots.size := (Array.getElem?_eq_some_iff.mp hv).1
    have q := K5 i hi
    rw [hv] at q
    rw [Option.some.inj q]
    exact K6 i hi
  refine Back.mono (back hZ hw wi E V C K1 hty S hz (by omega) (by omega) (fun i hi => by rw [hcv i (by omega)]; exact hall _ (List.getElem_mem _)) hfr hlo) (fun P a hp => ⟨hp.1, hp.2.1, hp.2.2.1, by rw [e]; exact hp.2.2.2⟩) (fun P a v B hp hq => ?_)
  obtain ⟨L, ⟨q1, q2, q3, q4, q5, q6, q7, ⟨V', v1, v2, v3, v4, v5⟩, q9⟩, hl, hc, hs⟩ := hq
  refine ⟨L, ⟨q1, q2, q3, q4, q5, q6, q7, ⟨V'.cls, v3, V', v1, rfl, by rw [v4, e, hlen], K4, fun i hi => ?_, fun i hi => ?_⟩, q9⟩, hl, hc, by rw [hs, e]⟩
  · have hi' : i < cs.length := by omega
    rw [v5 i (by omega), hcv i hi']; simp [List.getD_eq_getElem?_getD, hi']
  · have hi' : i < cs.length := by omega
    simp only [List.getD_eq_getElem?_getD, List.getElem?_map, List.getElem?_eq_getElem hi', Option.map_some, Option.getD_some]
    exact fits_lo8 _
end StrChars.Road
namespace StrChars.Road
open Jvm Sem ClassFile Op Lib Jvm.Stand Jvm.Free Jvm.Free.XT
/-- WHAT COMES BACK, in the writer's own shape -/
def QV (Z : State) (x : Addr) (N : Int32) (bs : List Int32) (h : Heap) (n0 : Nat) (v : Option Value) (h' : Heap) (L : List Loc) : Prop := v = none ∧ RoadKit.Fr n0 L ∧ RoadKit.Keep h h' [x] ∧ RoadKit.Exa Z h' x ST ∧ RoadKit.Fld Z h' x ST "coder" "B" (.int 0) ∧
  ∃ (t : Addr) (kb : ClassId), n0 ≤ t ∧ h.size ≤ t ∧ ¬ t = x ∧ RoadKit.Fld Z h' x ST "value" "[B" (.ref t) ∧ RoadKit.Arv Z h' t kb .byte N (bs.map Value.int) (.int 0)
/-- **new String(chars) AT A CALL, FOR THE WRITER**: a char[] of n known ints, each 0 to 255 -/
theorem backV {p : Program} {l : Launch} {e : Env} {R : Room} {s : State} {args : Array Value} {below : List Frame} {len W : Nat} {Z : State} {a0 : Array Value} {h : Heap} (hZ : Z.Warmed39 s.vm) (hw : ∀ d ∈ words, d.before a0 Z = true) {kI : Nat} (wi : (Jvm.Cond.instantiable ST kI).before a0 Z = true)
    {x b : Addr} {kC : ClassId} {cs bs : List Int32} {d v0 c0 : Value} {z N : Int32} {n n0 : Nat} (hx0 : n0 ≤ x) (hh0 : n0 ≤ h.size) (E : RoadKit.Exa Z h x ST) (V : RoadKit.Fld Z h x ST "value" "[B" v0) (C : RoadKit.Fld Z h x ST "coder" "B" c0) (K : RoadKit.Arv Z h b kC .char N (cs.map Value.int) d) (S : RoadKit.Sta Z h ST "COMPACT_STRINGS" "Z" (.int z)) (hz : ¬ z = 0)
    (hn : cs.length = n) (hN : N = Int32.ofNat n) (l0 : 0 < n) (l2 : n ≤ 4000) (hp : ∀ c ∈ cs, ¬ c < 0 ∧ ¬ (255 : Int32) < c) (hb : bs = cs.map (fun c => c.toInt8.toInt32)) (hfr : 4 ≤ R.frames) (hlo : W + 65 ≤ R.locals) :
    Back l R p e below s args (⟨"java/lang/String", "<init>", "([C)V"⟩ : MethodName) len W (fun P a => a = #[.ref x, .ref b] ∧ P.U.heap = h ∧ P.cells + 1 ≤ R.cells ∧ P.slots + n ≤ R.slots)
      (fun P _ v B => ∃ L, QV Z x N bs h n0 v B.U.heap L ∧ B.locs = P.locs ++ L ∧ B.cells = P.cells + 1 ∧ B.slots = P.slots + n) := by
  subst hn hN hb
  refine Back.mono (backArv hZ hw wi E V C K S hz (n32 (by omega)) l0 (by omega) (fun c hc => (hp c hc).2) hfr hlo) (fun P a hp => hp) (fun P a v B hp hq => ?_)
  obtain ⟨L, ⟨q1, q2, q3, q4, q5, q6, q7, ⟨kb, v1, v2⟩, q9⟩, hl, hc, hs⟩ := hq
  exact ⟨L, ⟨q1, fun y hy => by rw [q2 y hy]; exact hx0, q3, q5, q7, h.size, kb, hh0, Nat.le_refl _, Nat.ne_of_gt E.lt, q6, by rw [List.map_map]; exact v2⟩, hl, hc, hs⟩
end StrChars.Road
namespace StrChars
open Jvm Sem ClassFile Op Lib Jvm.Stand Jvm.Free.XT Jvm.Free.ALB Jvm.Free.JM Jvm.Free
open Jvm.Lib.Cold (StaticIs)
def hi8 (x : Int32) : Int32 := lo8 (x >>> ((8 : Int32) &&& 31))
/-- what StringUTF16.getChar makes of two bytes -/
def pairCh (u v : Int32) : Int32 := (((u &&& 255) <<< ((0 : Int32) &&& 31)) ||| ((v &&& 255) <<< ((8 : Int32) &&& 31))).toUInt32.toUInt16.toUInt32.toInt32
theorem lo8_and (x : Int32) : (lo8 x &&& 255).toBitVec.toNat = x.toBitVec.toNat % 256 := by
  have h : (lo8 x).toBitVec = (x.toBitVec.signExtend 8).signExtend 32 := by rw [lo8, Int8.toBitVec_toInt32, Int32.toBitVec_toInt8]
  rw [Int32.toBitVec_and, BitVec.toNat_and, h]
  have e : ((x.toBitVec.signExtend 8).signExtend 32).toNat % 256 = x.toBitVec.toNat % 256 := by
    rw [BitVec.toNat_signExtend]
    have hlt := x.toBitVec.isLt
    simp only [BitVec.toNat_setWidth, BitVec.toNat_signExtend]
    split <;> split <;> omega
  rw [← e]
  exact Nat.and_two_pow_sub_one_eq_mod _ 8
theorem pair_says {c : Int32} (h0 : ¬ c < 0) (h1 : ¬ 65535 < c) : pairCh (lo8 c) (hi8 c) = c := by
  rw [Int32.lt_iff_toInt_lt] at h0 h1
  have e0 : (0 : Int32).toInt = 0 := rfl
  have e1 : (65535 : Int32).toInt = 65535 := rfl
  have hc : c.toInt = c.toBitVec.toNat := by
    have := c.toBitVec.isLt
    have e : c.toInt = c.toBitVec.toInt := rfl
    rw [e] at h0 h1
    rw [e]
    rw [BitVec.toInt_eq_toNat_cond] at h0 h1 ⊢
    split at h0 <;> split <;> omega
  have hn : c.toBitVec.toNat < 65536 := by omega
  have a1 := lo8_and c
  have a2 : (hi8 c &&& 255).toBitVec.toNat = c.toBitVec.toNat / 256 := by
    rw [hi8, lo8_and]
    have e : ((8 : Int32) &&& 31) = 8 := by decide
    rw [e, Int32.toBitVec_shiftRight]
    have e2 : ((8 : Int32).toBitVec.smod 32) = 8#32 := by decide
    rw [e2, BitVec.sshiftRight_eq', BitVec.toNat_sshiftRight_of_msb_false (by rw [BitVec.msb_eq_false_iff_two_mul_lt]; omega)]
    show c.toBitVec.toNat >>> 8 % 256 = _
    rw [Nat.shiftRight_eq_div_pow]
    omega
  unfold pairCh
  apply Int32.toBitVec_inj.mp
  apply BitVec.eq_of_toNat_eq
  have f0 : ((0 : Int32) &&& 31) = 0 := by decide
  have f8 : ((8 : Int32) &&& 31) = 8 := by decide
  rw [f0, f8]
  have g : (((lo8 c &&& 255) <<< (0 : Int32)) ||| ((hi8 c &&& 255) <<< (8 : Int32))).toBitVec.toNat = c.toBitVec.toNat := by
    rw [Int32.toBitVec_or, Int32.toBitVec_shiftLeft, Int32.toBitVec_shiftLeft]
    have s0 : ((0 : Int32).toBitVec.smod 32) = 0#32 := by decide
    have s8 : ((8 : Int32).toBitVec.smod 32) = 8#32 := by decide
    rw [s0, s8, BitVec.toNat_or]
    simp only [BitVec.shiftLeft_eq', BitVec.toNat_shiftLeft, a1, a2]
    show (c.toBitVec.toNat % 256) <<< 0 % 2 ^ 32 ||| (c.toBitVec.toNat / 256) <<< 8 % 2 ^ 32 = _
    rw [Nat.shiftLeft_zero, Nat.mod_eq_of_lt (show c.toBitVec.toNat % 256 < 2 ^ 32 by omega), Nat.mod_eq_of_lt (show (c.toBitVec.toNat / 256) <<< 8 < 2 ^ 32 by rw [Nat.shiftLeft_eq]; omega), Nat.or_comm, ← Nat.shiftLeft_add_eq_or_of_lt (by omega), Nat.shiftLeft_eq]
    omega
  show BitVec.toNat (((((lo8 c &&& 255) <<< (0 : Int32)) ||| ((hi8 c &&& 255) <<< (8 : Int32))).toBitVec.setWidth 16).setWidth 32) = _
  rw [BitVec.toNat_setWidth, BitVec.toNat_setWidth, g]
  omega
end StrChars
namespace StrChars
open Jvm Sem ClassFile Op Lib Jvm.Stand Jvm.Free.XT Jvm.Free.ALB Jvm.Free.JM Jvm.Free
open Jvm.Lib.Cold (StaticIs)
/-- the array's cell V codes the n chars f 0 .. f (n - 1) by the coder cd, as the JDK does: coder 1 just where some char is above 255 -/
def Cod (cd : Int32) (n : Nat) (f : Nat → Int32) (V : Cell) : Prop := (cd = 0 ∧ V.slots.size = n ∧ ∀ j, j < n → V.slots[j]? = some (.int (lo8 (f j))) ∧ ¬ 255 < f j) ∨ (cd = 1 ∧ V.slots.size = 2 * n ∧ (∀ j, j < n → V.slots[2 * j]? = some (.int (lo8 (f j))) ∧ V.slots[2 * j + 1]? = some (.int (hi8 (f j)))) ∧ ∃ j, j < n ∧ 255 < f j)
/-- **x is a String of the n chars f 0 .. f (n - 1)**, Latin-1 or UTF-16; its array at t has the cell V -/
def Txt (x t : Addr) (V : Cell) (cd : Int32) (n : Nat) (f : Nat → Int32) (U : State) : Prop := Exact "java/lang/String" x U ∧ Has x "java/lang/String" "value" "[B" (.ref t) U ∧ Has x "java/lang/String" "coder" "B" (.int cd) U ∧ XT.Arr .byte t V U ∧ Cod cd n f V ∧ ∀ j, j < n → ¬ f j < 0 ∧ ¬ 65535 < f j
theorem Txt.mv {x t : Addr} {V : Cell} {cd : Int32} {n : Nat} {f : Nat → Int32} {U U' : State} (h : Txt x t V cd n f U) (hal : U.vm.Alike U'.vm) (hh : U'.heap = U.heap) : Txt x t V cd n f U' := ⟨h.1.mv hal hh, h.2.1.mv hal hh, h.2.2.1.mv hal hh, h.2.2.2.1.mv hal hh, h.2.2.2.2⟩
end StrChars
namespace StrChars.Road
open Jvm Sem ClassFile Op Lib Jvm.Stand Jvm.Free Jvm.Free.XT
open Jvm.Lib.Cold (StaticIs)
theorem consq {a : Array Value} {s : State} {c : Jvm.Cond} {L : List Jvm.Cond} (h0 : c.before a s = true) (h : ∀ w ∈ L, w.before a s = true) : ∀ w ∈ c :: L, w.before a s = true := fun w hw => (List.mem_cons.mp hw).elim (fun e => e ▸ h0) (h w)
/-- the bytes of the chars cs, low before high -/
def wideBytes : List Int32 → List Value
  | [] => []
  | c :: cs => .int (lo8 c) :: .int (hi8 c) :: wideBytes cs
theorem wide_lo (d : Value) : ∀ (cs : List Int32) (j : Nat), j < cs.length → (wideBytes cs).getD (2 * j) d = .int (lo8 (cs.getD j 0))
  | [], j, h => absurd h (Nat.not_lt_zero j)
  | c :: cs, 0, _ => rfl
  | c :: cs, j + 1, h => by
    have q := wide_lo d cs j (by simpa using h)
    rw [show 2 * (j + 1) = 2 * j + 1 + 1 from by omega]
    simpa [wideBytes] using q
theorem wide_hi (d : Value) : ∀ (cs : List Int32) (j : Nat), j < cs.length → (wideBytes cs).getD (2 * j + 1) d = .int (hi8 (cs.getD j 0))
  | [], j, h => absurd h (Nat.not_lt_zero j)
  | c :: cs, 0, _ => rfl
  | c :: cs, j + 1, h => by
    have q := wide_hi d cs j (by simpa using h)
    rw [show 2 * (j + 1) + 1 = 2 * j + 1 + 1 + 1 from by omega]
    simpa [wideBytes] using q
theorem low_at (d : Value) (cs : List Int32) (j : Nat) (h : j < cs.length) : (cs.map fun c => Value.int (lo8 c)).getD j d = .int (lo8 (cs.getD j 0)) := by
  simp [List.getD_eq_getElem?_getD, h]
/-- an array of N2 bytes vs codes the chars cs by the coder cd -/
def CodA (cs : List Int32) (cd N2 : Int32) (vs : List Value) : Prop := (cd = 0 ∧ N2 = Int32.ofNat cs.length ∧ vs = (cs.map fun c => Value.int (lo8 c)) ∧ ∀ c ∈ cs, ¬ 255 < c) ∨ (cd = 1 ∧ N2 = Int32.ofNat (2 * cs.length) ∧ vs = wideBytes cs ∧ ∃ c ∈ cs, 255 < c)
theorem CodA.cod {cs : List Int32} {cd N2 : Int32} {vs : List Value} {V : Cell} (h : CodA cs cd N2 vs) (hn : 2 * cs.length < 2 ^ 31) (hs : V.slots.size = N2.toNatClampNeg) (hv : RoadKit.Has V vs (.int 0)) : Cod cd cs.length (fun j => cs.getD j 0) V := by
  rcases h with ⟨rfl, rfl, rfl, h⟩ | ⟨rfl, rfl, rfl, c, hc, hw⟩
  · rw [n32 (by omega)] at hs
    exact Or.inl ⟨rfl, hs, fun j hj => ⟨by rw [hv j (by omega), low_at _ _ _ hj], by
      have e : cs.getD j 0 = cs[j] := by simp [List.getD_eq_getElem?_getD, hj]
      show ¬ 255 < cs.getD j 0
      rw [e]; exact h _ (List.getElem_mem _)⟩⟩
  · rw [n32 (by omega)] at hs
    obtain ⟨j, hj, rfl⟩ := List.getElem_of_mem hc
    exact Or.inr ⟨rfl, hs, fun j hj => ⟨by rw [hv _ (by omega), wide_lo _ _ _ hj], by rw [hv _ (by omega), wide_hi _ _ _ hj]⟩, j, hj, by
      have e : cs.getD j 0 = cs[j] := by simp [List.getD_eq_getElem?_getD, hj]
      show 255 < cs.getD j 0
      rw [e]; exact hw⟩
/-- an object of exactly java/lang/String, its two fields found: as the laws ask it -/
theorem strObj {Z U : State} {a0 : Array Value} {kI : Nat} (wi : (Jvm.Cond.instantiable ST kI).before a0 Z = true) (al : Z.vm.Alike U.vm) {x : Addr} {v0 c0 : Value} (E : RoadKit.Exa Z U.heap x ST) (V : RoadKit.Fld Z U.heap x ST "value" "[B" v0) (C : RoadKit.Fld Z U.heap x ST "coder" "B" c0) :
    ∃ (D : Cell) (fV fC : Field), Blank ST x D U ∧ Found ST "value" "[B" fV U ∧ Found ST "coder" "B" fC U ∧ D.slots[fV.slot]? = some v0 ∧ D.slots[fC.slot]? = some c0 ∧ RoadKit.slotOf Z ST "value" "[B" = fV.slot ∧ RoadKit.slotOf Z ST "coder" "B" = fC.slot := by
  obtain ⟨D, cfV, kV, iV, fV, hD, gV, stV, knV, obV, asV, slV⟩ := V
  obtain ⟨D', cfC, kC, iC, fC, hD', gC, stC, -, -, asC, slC⟩ := C
  cases hD.symm.trans hD'
  obtain ⟨D2, kD, e1, e2, e3, e4, e5⟩ := E
  cases hD.symm.trans e1
  obtain ⟨c2, k2, i1, i2, i3, -⟩ := Cond.instantiable_spec wi
  cases e2.symm.trans i1
  cases e3.symm.trans i2
  obtain ⟨kU, u1, u2⟩ := al.2.2 _ _ e3
  exact ⟨D, fV, fC, ⟨hD, ⟨knV, fun q hq => by rw [hq] at obV; cases obV⟩, by rw [al.findClass]; exact e2, kU, u1, by rw [u2]; exact i3, by rw [u2]; exact e5 i3⟩, ⟨SBG.found_only al ⟨cfV, kV, iV, gV⟩, stV⟩, ⟨SBG.found_only al ⟨cfC, kC, iC, gC⟩, stC⟩, slV, slC, by simp [RoadKit.slotOf, gV], by simp [RoadKit.slotOf, gC]⟩
theorem sta_is {Z U : State} (al : Z.vm.Alike U.vm) {C n d : String} {v : Value} (S : RoadKit.Sta Z U.heap C n d v) : StaticIs U C n d v := by
  obtain ⟨cfS, iS, kS, fS, st, cS, t1, t2, t3, t4, t5, t6, t7⟩ := S
  exact StaticIs.there (s := { Z with heap := U.heap }) ⟨cfS, iS, kS, fS, st, cS, t1, t2, t3, t4, t5, (fun q => by rw [q] at t6; cases t6), t7⟩ al rfl
end StrChars.Road
namespace StrChars
open Jvm Sem ClassFile Op Lib Jvm.Stand Jvm.Free.XT Jvm.Free.ALB Jvm.Free.JM Jvm.Free
open Jvm.Lib.Cold (StaticIs)
/-- what place i of a byte[]'s cell holds -/
def yv (A : Cell) (i : Nat) : Int32 := match A.slots[i]? with | some (.int x) => x | _ => 0
theorem yv_get {a : Addr} {A : Cell} {U : State} (h : XT.Arr .byte a A U) (ht : Typed .byte A) {i : Nat} (hi : i < A.slots.size) : A.slots[i]? = some (.int (yv A i)) := by
  have e := Array.getElem?_eq_getElem hi
  have f := ht i _ e
  unfold yv; rw [e]
  generalize A.slots[i] = v at f
  cases v <;> simp [fits] at f ⊢
/-- the two arrays are equal, place for place -/
def EqC (A B : Cell) : Prop := A.slots.size = B.slots.size ∧ ∀ i, i < A.slots.size → yv A i = yv B i
/-- a boolean that says whether p -/
def Says01 (q : Prop) (r : Option Value) (s u : State) : Prop := ∃ v : Int32, r = some (.int v) ∧ u.heap = s.heap ∧ ((v = 1 ∧ q) ∨ (v = 0 ∧ ¬ q))
theorem Says01.mv {q : Prop} : ∀ r (U U' V V' : State), U'.heap = U.heap → V.vm.Alike V'.vm → V'.heap = V.heap → Says01 q r U V → Says01 q r U' V' :=
  fun r U U' V V' h1 _ h2 ⟨v, a, b, c⟩ => ⟨v, a, by rw [h1, h2]; exact b, c⟩
namespace LEq
def yN : MethodName := ⟨"java/lang/StringLatin1", "equals", "([B[B)Z"⟩
abbrev yB : ByteArray := jdk_43_method_13_code
theorem d0 : decode yB 0 = .ok (.aload_n 0, 1) := by decide +kernel
theorem d1 : decode yB 1 = .ok (.arraylength, 1) := by decide +kernel
theorem d2 : decode yB 2 = .ok (.aload_n 1, 1) := by decide +kernel
theorem d3 : decode yB 3 = .ok (.arraylength, 1) := by decide +kernel
theorem d4 : decode yB 4 = .ok (.if_icmp (.ne) 30, 3) := by decide +kernel
theorem d7 : decode yB 7 = .ok (.iconst 0, 1) := by decide +kernel
theorem d8 : decode yB 8 = .ok (.istore_n 2, 1) := by decide +kernel
theorem d9 : decode yB 9 = .ok (.iload_n 2, 1) := by decide +kernel
theorem d10 : decode yB 10 = .ok (.aload_n 0, 1) := by decide +kernel
theorem d11 : decode yB 11 = .ok (.arraylength, 1) := by decide +kernel
theorem d12 : decode yB 12 = .ok (.if_icmp (.ge) 20, 3) := by decide +kernel
theorem d15 : decode yB 15 = .ok (.aload_n 0, 1) := by decide +kernel
theorem d16 : decode yB 16 = .ok (.iload_n 2, 1) := by decide +kernel
theorem d17 : decode yB 17 = .ok (.baload, 1) := by decide +kernel
theorem d18 : decode yB 18 = .ok (.aload_n 1, 1) := by decide +kernel
theorem d19 : decode yB 19 = .ok (.iload_n 2, 1) := by decide +kernel
theorem d20 : decode yB 20 = .ok (.baload, 1) := by decide +kernel
theorem d21 : decode yB 21 = .ok (.if_icmp (.eq) 5, 3) := by decide +kernel
theorem d24 : decode yB 24 = .ok (.iconst 0, 1) := by decide +kernel
theorem d25 : decode yB 25 = .ok (.ireturn, 1) := by decide +kernel
theorem d26 : decode yB 26 = .ok (.iinc 2 1, 3) := by decide +kernel
theorem d29 : decode yB 29 = .ok (.goto (-20), 3) := by decide +kernel
theorem d32 : decode yB 32 = .ok (.iconst 1, 1) := by decide +kernel
theorem d33 : decode yB 33 = .ok (.ireturn, 1) := by decide +kernel
theorem d34 : decode yB 34 = .ok (.iconst 0, 1) := by decide +kernel
theorem d35 : decode yB 35 = .ok (.ireturn, 1) := by decide +kernel
def site : List Cond := []
def tab : Cond := tabOf yN yB 3 (some .boolean) site
def P (a : Addr) (A : Cell) (b : Addr) (B : Cell) (args : Array Value) (s : State) : Prop := args = #[.ref a, .ref b] ∧ XT.Arr .byte a A s ∧ Typed .byte A ∧ XT.Arr .byte b B s ∧ Typed .byte B
/-- whether two byte[] are equal, place for place -/
theorem law (l : Launch) (a : Addr) (A : Cell) (b : Addr) (B : Cell) : Law l yN 2 2 0 0 yB 3 (some .boolean) site (P a A b B) (Says01 (EqC A B)) [] 0 0 := by
  refine Law.of_walk (plainFor_of_name (by decide +kernel)) (by decide +kernel) (by decide +kernel) (by decide) (fun _ _ h => by rw [h.1]; rfl) (fun _ U U' hal hh h => ⟨h.1, h.2.1.mv hal hh, h.2.2.1, h.2.2.2.1.mv hal hh, h.2.2.2.2⟩) (fun r U U' V V' h1 hal h2 h => Says01.mv r U U' V V' h1 hal h2 h) ?_
  intro p e s m args below meth c s₁ X0 hexec hbytes hml hret hlk hnm hown hh0 W hP
  obtain ⟨rfl, hA, tA, hB, tB⟩ := hP
  have a31 := hA.2.2.2
  have b31 := hB.2.2.2
  have hA0 := hA.mv X0.warmed.alike hh0
  have hB0 := hB.mv X0.warmed.alike hh0
  have c1 : Steps p.tables e below (s₁.setTop (entryFrame m #[.ref a, .ref b] 3)) (s₁.setTop (mkF m 0 #[.val (.ref a), .val (.ref b), .unset] [])) := entry rfl
  have c2 : Steps p.tables e below (s₁.setTop (entryFrame m #[.ref a, .ref b] 3)) (s₁.setTop (mkF m 4 #[.val (.ref a), .val (.ref b), .unset] [.int (Int32.ofNat B.slots.size), .int (Int32.ofNat A.slots.size)])) := c1.trans (by
    refine XS.aloadN X0.here hexec rfl (hb hbytes d0) rfl rfl ?_
    refine X0.alen hexec hA0 rfl rfl (hb hbytes d1) ?_
    refine XS.aloadN X0.here hexec rfl (hb hbytes d2) rfl rfl ?_
    refine X0.alen hexec hB0 rfl rfl (hb hbytes d3) ?_
    exact Steps.refl _)
  by_cases hs : A.slots.size = B.slots.size
  · have c3 : Steps p.tables e below (s₁.setTop (entryFrame m #[.ref a, .ref b] 3)) (s₁.setTop (mkF m 9 #[.val (.ref a), .val (.ref b), .val (.int 0)] [])) := c2.trans (by
      refine XS.icmpNo X0.here hexec rfl (hb hbytes d4) rfl (ii_ne_f (by rw [hs])) ?_
      refine iconstV X0.here hexec rfl 0 (hb hbytes d7) (by decide) ?_
      refine XS.istoreN X0.here hexec rfl (hb hbytes d8) rfl rfl ?_
      exact Steps.refl _)
    have loop : ∀ (r i : Nat), i + r = A.slots.size → (∀ j, j < i → yv A j = yv B j) → Steps p.tables e below (s₁.setTop (entryFrame m #[.ref a, .ref b] 3)) (s₁.setTop (mkF m 9 #[.val (.ref a), .val (.ref b), .val (.int (Int32.ofNat i))] [])) → ∃ (pc : Nat) (Ls : Array Slot) (v : Int32), (pc = 25 ∨ pc = 33) ∧ ((v = 1 ∧ EqC A B) ∨ (v = 0 ∧ ¬ EqC A B)) ∧ Steps p.tables e below (s₁.setTop (entryFrame m #[.ref a, .ref b] 3)) (s₁.setTop (mkF m pc Ls [.int v])) := by
      intro r
      induction r with
      | zero =>
        intro i hi he cl
        exact ⟨33, _, 1, Or.inr rfl, Or.inl ⟨rfl, hs, fun j hj => he j (by omega)⟩, cl.trans (by
          refine XS.iloadN X0.here hexec rfl (hb hbytes d9) rfl ?_
          refine XS.aloadN X0.here hexec rfl (hb hbytes d10) rfl rfl ?_
          refine X0.alen hexec hA0 rfl rfl (hb hbytes d11) ?_
          refine XS.icmpYes X0.here hexec rfl (pc0 := 12) rfl (hb hbytes d12) rfl (ii_ge_t (nlt32 (by omega) (by omega))) (by decide) rfl ?_
          refine iconstV X0.here hexec rfl 1 (hb hbytes d32) (by decide) ?_
          exact Steps.refl _)⟩
      | succ r ih =>
        intro i hi he cl
        have c4 : Steps p.tables e below (s₁.setTop (entryFrame m #[.ref a, .ref b] 3)) (s₁.setTop (mkF m 21 #[.val (.ref a), .val (.ref b), .val (.int (Int32.ofNat i))] [.int (yv B i), .int (yv A i)])) := cl.trans (by
          refine XS.iloadN X0.here hexec rfl (hb hbytes d9) rfl ?_
          refine XS.aloadN X0.here hexec rfl (hb hbytes d10) rfl rfl ?_
          refine X0.alen hexec hA0 rfl rfl (hb hbytes d11) ?_
          refine XS.icmpNo X0.here hexec rfl (hb hbytes d12) rfl (ii_ge_f (lt32 (by omega) (by omega))) ?_
          refine XS.aloadN X0.here hexec rfl (hb hbytes d15) rfl rfl ?_
          refine XS.iloadN X0.here hexec rfl (hb hbytes d16) rfl ?_
          refine X0.aget hexec hA0 rfl (yv_get hA tA (i := i) (by omega)) rfl rfl (hb hbytes d17) ?_
          refine XS.aloadN X0.here hexec rfl (hb hbytes d18) rfl rfl ?_
          refine XS.iloadN X0.here hexec rfl (hb hbytes d19) rfl ?_
          refine X0.aget hexec hB0 rfl (yv_get hB tB (i := i) (by omega)) rfl rfl (hb hbytes d20) ?_
          exact Steps.refl _)
        by_cases hv : yv A i = yv B i
        · have c5 : Steps p.tables e below (s₁.setTop (entryFrame m #[.ref a, .ref b] 3)) (s₁.setTop (mkF m 9 #[.val (.ref a), .val (.ref b), .val (.int (Int32.ofNat i + 1))] [])) := c4.trans (by
            refine XS.icmpYes X0.here hexec rfl (pc0 := 21) rfl (hb hbytes d21) rfl (ii_eq_t hv) (by decide) rfl ?_
            refine iincV X0.here hexec rfl 1 (hb hbytes d26) (by decide) rfl rfl ?_
            refine XS.goto X0.here hexec rfl (pc0 := 29) rfl (hb hbytes d29) (by decide) rfl ?_
            exact Steps.refl _)
          rw [succ32] at c5
          exact ih (i + 1) (by omega) (fun j hj => by
            by_cases e : j = i
            · rw [e]; exact hv
            · exact he j (by omega)) c5
        · exact ⟨25, _, 0, Or.inl rfl, Or.inr ⟨rfl, fun q => hv (q.2 i (by omega))⟩, c4.trans (by
            refine XS.icmpNo X0.here hexec rfl (hb hbytes d21) rfl (ii_eq_f hv) ?_
            refine iconstV X0.here hexec rfl 0 (hb hbytes d24) (by decide) ?_
            exact Steps.refl _)⟩
    obtain ⟨pc, Ls, v, hpc, hv, cz⟩ := loop A.slots.size 0 (by omega) (fun j hj => absurd hj (Nat.not_lt_zero j)) c3
    have nv : narrow .boolean (.int v) = .int v := by rcases hv with ⟨rfl, -⟩ | ⟨rfl, -⟩ <;> rfl
    rcases hpc with rfl | rfl
    · exact ⟨s₁, some (.int v), _, _, _, X0, rfl, rfl, rfl, (fun h => by cases h), ⟨v, rfl, hh0, hv⟩, fun fs hl => cz.trans (X0.ireturnOut hexec hret nv (Or.inr (Or.inl rfl)) (hb hbytes d25) hl)⟩
    · exact ⟨s₁, some (.int v), _, _, _, X0, rfl, rfl, rfl, (fun h => by cases h), ⟨v, rfl, hh0, hv⟩, fun fs hl => cz.trans (X0.ireturnOut hexec hret nv (Or.inr (Or.inl rfl)) (hb hbytes d33) hl)⟩
  · have c3 : Steps p.tables e below (s₁.setTop (entryFrame m #[.ref a, .ref b] 3)) (s₁.setTop (mkF m 35 #[.val (.ref a), .val (.ref b), .unset] [.int 0])) := c2.trans (by
      refine XS.icmpYes X0.here hexec rfl (pc0 := 4) rfl (hb hbytes d4) rfl (ii_ne_t (ne32 a31 b31 hs)) (by decide) rfl ?_
      refine iconstV X0.here hexec rfl 0 (hb hbytes d34) (by decide) ?_
      exact Steps.refl _)
    exact ⟨s₁, some (.int 0), _, _, _, X0, rfl, rfl, rfl, (fun h => by cases h), ⟨0, rfl, hh0, Or.inr ⟨rfl, fun q => hs q.1⟩⟩, fun fs hl => c3.trans (X0.ireturnOut hexec hret rfl (Or.inr (Or.inl rfl)) (hb hbytes d35) hl)⟩
end LEq
theorem Cod.ty {cd : Int32} {n : Nat} {f : Nat → Int32} {V : Cell} (h : Cod cd n f V) : Typed .byte V := fun i v hv => by
  have hi : i < V.slots.size := (Array.getElem?_eq_some_iff.mp hv).1
  rcases h with ⟨-, k1, k2⟩ | ⟨-, k1, k2, -⟩
  · rw [(k2 i (by omega)).1] at hv; cases hv; exact fits_lo8 _
  · rcases Nat.mod_two_eq_zero_or_one i with e | e
    · obtain ⟨j, rfl⟩ : ∃ j, i = 2 * j := ⟨i / 2, by omega⟩
      rw [(k2 j (by omega)).1] at hv; cases hv; exact fits_lo8 _
    · obtain ⟨j, rfl⟩ : ∃ j, i = 2 * j + 1 := ⟨i / 2, by omega⟩
      rw [(k2 j (by omega)).2] at hv; cases hv; exact fits_lo8 _
/-- the same text -/
def SameT (n : Nat) (f : Nat → Int32) (k : Nat) (g : Nat → Int32) : Prop := n = k ∧ ∀ j, j < n → f j = g j
theorem lo8_inj {x y : Int32} (h0 : ¬ x < 0) (h1 : ¬ 255 < x) (k0 : ¬ y < 0) (k1 : ¬ 255 < y) (h : lo8 x = lo8 y) : x = y := by
  rw [← lo8_mask h0 h1, ← lo8_mask k0 k1, h]
/-- arrays coded by one coder are equal just where the texts are -/
theorem Cod.eqv {cd : Int32} {n k : Nat} {f g : Nat → Int32} {V V' : Cell} (h : Cod cd n f V) (h' : Cod cd k g V') (hf : ∀ j, j < n → ¬ f j < 0 ∧ ¬ 65535 < f j) (hg : ∀ j, j < k → ¬ g j < 0 ∧ ¬ 65535 < g j) : EqC V V' ↔ SameT n f k g := by
  have yvv : ∀ {W : Cell} {i : Nat} {x : Int32}, W.slots[i]? = some (.int x) → yv W i = x := fun q => by unfold yv; rw [q]
  rcases h with ⟨rfl, k1, k2⟩ | ⟨rfl, k1, k2, -⟩
  · rcases h' with ⟨-, m1, m2⟩ | ⟨e, -⟩
    · constructor
      · rintro ⟨e1, e2⟩
        refine ⟨by omega, fun j hj => ?_⟩
        have q := e2 j (by omega)
        rw [yvv (k2 j hj).1, yvv (m2 j (by omega)).1] at q
        exact lo8_inj (hf j hj).1 (k2 j hj).2 (hg j (by omega)).1 (m2 j (by omega)).2 q
      · rintro ⟨rfl, e2⟩
        refine ⟨by omega, fun j hj => ?_⟩
        rw [yvv (k2 j (by omega)).1, yvv (m2 j (by omega)).1, e2 j (by omega)]
    · exact absurd e (by decide)
  · rcases h' with ⟨e, -⟩ | ⟨-, m1, m2, -⟩
    · exact absurd e (by decide)
    · constructor
      · rintro ⟨e1, e2⟩
        refine ⟨by omega, fun j hj => ?_⟩
        have q1 := e2 (2 * j) (by omega)
        have q2 := e2 (2 * j + 1) (by omega)
        rw [yvv (k2 j hj).1, yvv (m2 j (by omega)).1] at q1
        rw [yvv (k2 j hj).2, yvv (m2 j (by omega)).2] at q2
        rw [← pair_says (hf j hj).1 (hf j hj).2, ← pair_says (hg j (by omega)).1 (hg j (by omega)).2, q1, q2]
      · rintro ⟨rfl, e2⟩
        refine ⟨by omega, fun i hi => ?_⟩
        rcases Nat.mod_two_eq_zero_or_one i with e | e
        · obtain ⟨j, rfl⟩ : ∃ j, i = 2 * j := ⟨i / 2, by omega⟩
          rw [yvv (k2 j (by omega)).1, yvv (m2 j (by omega)).1, e2 j (by omega)]
        · obtain ⟨j, rfl⟩ : ∃ j, i = 2 * j + 1 := ⟨i / 2, by omega⟩
          rw [yvv (k2 j (by omega)).2, yvv (m2 j (by omega)).2, e2 j (by omega)]
/-- two codings differ: so do the texts -/
theorem Cod.dif {cd cd' : Int32} {n k : Nat} {f g : Nat → Int32} {V V' : Cell} (h : Cod cd n f V) (h' : Cod cd' k g V') (hne : ¬ cd = cd') : ¬ SameT n f k g := by
  rintro ⟨rfl, e⟩
  rcases h with ⟨rfl, -, k2⟩ | ⟨rfl, -, -, j, hj, hw⟩
  · rcases h' with ⟨rfl, -⟩ | ⟨-, -, -, j, hj, hw⟩
    · exact hne rfl
    · exact (k2 j hj).2 (by rw [e j hj]; exact hw)
  · rcases h' with ⟨-, -, m2⟩ | ⟨rfl, -⟩
    · exact (m2 j hj).2 (by rw [← e j hj]; exact hw)
    · exact hne rfl
/-- an object of exactly C is an instance of C -/
theorem cinst {p : Program} {l : Launch} {e : Env} {R : Room} {s : State} {m : MethodId} {args : Array Value} {below : List Frame} {meth : Method} {c : Code} {T : State} {locs : List Loc} {cells slots : Nat} (X : Stand p l e R s m args below meth c T locs cells slots) (hexec : p.tables.exec = Jvm.exec) {own C : String} {index : Nat} (hown : s.vm.findClass own = some m.cls) (hlink : (Cond.classLink own index C).before args s = true) {a : Addr} (hE : Exact C a T)
    {g : JFrame} (hg : g.method = m) {rest : List Value} (hstack : g.stack = .ref a :: rest) (hdg : decode c.code g.pc = .ok (.instanceof index, 3)) :
    ∃ T', Stand p l e R s m args below meth c T' locs cells slots ∧ T'.heap = T.heap ∧ ∀ target, Steps p.tables e below (T'.setTop { g with pc := g.pc + 3, stack := .int 1 :: rest }) target → Steps p.tables e below (T.setTop g) target := by
  obtain ⟨cB, h1, D, h2, h3, h4⟩ := hE
  have h1' : s.vm.findClass C = some cB := by rw [← X.warmed.alike.findClass]; exact h1
  obtain ⟨vm', X', st⟩ := X.instanceofYes hexec hown hlink h2 h4 h1' (by rw [h3]; exact Jvm.Free.SB.assignable_self _ _) hg hstack hdg
  exact ⟨_, X', rfl, st⟩
theorem cself {p : Program} {l : Launch} {e : Env} {R : Room} {s : State} {m : MethodId} {args : Array Value} {below : List Frame} {meth : Method} {c : Code} {T : State} {locs : List Loc} {cells slots : Nat} (X : Stand p l e R s m args below meth c T locs cells slots) (hexec : p.tables.exec = Jvm.exec) {own C : String} {index : Nat} (hown : s.vm.findClass own = some m.cls) (hlink : (Cond.classLink own index C).before args s = true) {a : Addr} (hE : Exact C a T)
    {g : JFrame} (hg : g.method = m) {rest : List Value} (hstack : g.stack = .ref a :: rest) (hdg : decode c.code g.pc = .ok (.checkcast index, 3)) :
    ∃ T', Stand p l e R s m args below meth c T' locs cells slots ∧ T'.heap = T.heap ∧ ∀ target, Steps p.tables e below (T'.setTop { g with pc := g.pc + 3, stack := .ref a :: rest }) target → Steps p.tables e below (T.setTop g) target := by
  obtain ⟨cB, h1, D, h2, h3, h4⟩ := hE
  have h1' : s.vm.findClass C = some cB := by rw [← X.warmed.alike.findClass]; exact h1
  obtain ⟨vm', X', st⟩ := X.checkcastYes hexec hown hlink h2 h4 h1' (by rw [h3]; exact Jvm.Free.SB.assignable_self _ _) hg hstack hdg
  exact ⟨_, X', rfl, fun t h => st t (by rw [← hstack] at h; exact h)⟩
namespace SEq
def yN : MethodName := ⟨"java/lang/String", "equals", "(Ljava/lang/Object;)Z"⟩
abbrev yB : ByteArray := jdk_42_method_66_code
theorem d0 : decode yB 0 = .ok (.aload_n 0, 1) := by decide +kernel
theorem d1 : decode yB 1 = .ok (.aload_n 1, 1) := by decide +kernel
theorem d2 : decode yB 2 = .ok (.if_acmp (.ne) 5, 3) := by decide +kernel
theorem d5 : decode yB 5 = .ok (.iconst 1, 1) := by decide +kernel
theorem d6 : decode yB 6 = .ok (.ireturn, 1) := by decide +kernel
theorem d7 : decode yB 7 = .ok (.aload_n 1, 1) := by decide +kernel
theorem d8 : decode yB 8 = .ok (.instanceof 10, 3) := by decide +kernel
theorem d11 : decode yB 11 = .ok (.ifCond (.eq) 43, 3) := by decide +kernel
theorem d14 : decode yB 14 = .ok (.aload_n 1, 1) := by decide +kernel
theorem d15 : decode yB 15 = .ok (.checkcast 10, 3) := by decide +kernel
theorem d18 : decode yB 18 = .ok (.astore_n 2, 1) := by decide +kernel
theorem d19 : decode yB 19 = .ok (.getstatic 38, 3) := by decide +kernel
theorem d22 : decode yB 22 = .ok (.ifCond (.eq) 14, 3) := by decide +kernel
theorem d25 : decode yB 25 = .ok (.aload_n 0, 1) := by decide +kernel
theorem d26 : decode yB 26 = .ok (.getfield 15, 3) := by decide +kernel
theorem d29 : decode yB 29 = .ok (.aload_n 2, 1) := by decide +kernel
theorem d30 : decode yB 30 = .ok (.getfield 15, 3) := by decide +kernel
theorem d33 : decode yB 33 = .ok (.if_icmp (.ne) 21, 3) := by decide +kernel
theorem d36 : decode yB 36 = .ok (.aload_n 0, 1) := by decide +kernel
theorem d37 : decode yB 37 = .ok (.getfield 9, 3) := by decide +kernel
theorem d40 : decode yB 40 = .ok (.aload_n 2, 1) := by decide +kernel
theorem d41 : decode yB 41 = .ok (.getfield 9, 3) := by decide +kernel
theorem d44 : decode yB 44 = .ok (.invokestatic 541, 3) := by decide +kernel
theorem d47 : decode yB 47 = .ok (.ifCond (.eq) 7, 3) := by decide +kernel
theorem d50 : decode yB 50 = .ok (.iconst 1, 1) := by decide +kernel
theorem d51 : decode yB 51 = .ok (.goto 4, 3) := by decide +kernel
theorem d54 : decode yB 54 = .ok (.iconst 0, 1) := by decide +kernel
theorem d55 : decode yB 55 = .ok (.ireturn, 1) := by decide +kernel
def site : List Cond := [.classLink "java/lang/String" 10 "java/lang/String", .fieldLink "java/lang/String" 38 "java/lang/String" "COMPACT_STRINGS" "Z", .fieldLink "java/lang/String" 15 "java/lang/String" "coder" "B", .fieldLink "java/lang/String" 9 "java/lang/String" "value" "[B", LEq.tab] ++ staticW "java/lang/String" 541 LEq.yN
def tab : Cond := tabOf yN yB 3 (some .boolean) site
def P (x t : Addr) (V : Cell) (cd : Int32) (n : Nat) (f : Nat → Int32) (y t' : Addr) (V' : Cell) (cd' : Int32) (k : Nat) (g : Nat → Int32) (z : Int32) (args : Array Value) (s : State) : Prop := args = #[.ref x, .ref y] ∧ Txt x t V cd n f s ∧ Txt y t' V' cd' k g s ∧ StaticIs s "java/lang/String" "COMPACT_STRINGS" "Z" (.int z) ∧ ¬ z = 0
/-- equals(Object) of two Strings: whether the texts are the same -/
theorem law (l : Launch) (x t : Addr) (V : Cell) (cd : Int32) (n : Nat) (f : Nat → Int32) (y t' : Addr) (V' : Cell) (cd' : Int32) (k : Nat) (g : Nat → Int32) (z : Int32) : Law l yN 2 1 1 14 yB 3 (some .boolean) site (P x t V cd n f y t' V' cd' k g z) (Says01 (SameT n f k g)) [] 0 0 := by
  refine Law.of_walk (plainFor_of_name (by decide +kernel)) (by decide +kernel) (by decide +kernel) (by decide) (fun _ _ h => by rw [h.1]; rfl) (fun _ U U' hal hh h => ⟨h.1, h.2.1.mv hal hh, h.2.2.1.mv hal hh, h.2.2.2.1.there hal hh, h.2.2.2.2⟩) (fun r U U' V V' h1 hal h2 h => Says01.mv r U U' V V' h1 hal h2 h) ?_
  intro p e s m args below meth c s₁ X0 hexec hbytes hml hret hlk hnm hown hh0 W hP
  obtain ⟨rfl, hx, hy, s1, hz⟩ := hP
  have c1 : Steps p.tables e below (s₁.setTop (entryFrame m #[.ref x, .ref y] 3)) (s₁.setTop (mkF m 2 #[.val (.ref x), .val (.ref y), .unset] [.ref y, .ref x])) := Steps.trans (entry rfl) (by
    show Steps p.tables e below (s₁.setTop (mkF m 0 #[.val (.ref x), .val (.ref y), .unset] [])) _
    refine XS.aloadN X0.here hexec rfl (hb hbytes d0) rfl rfl ?_
    refine XS.aloadN X0.here hexec rfl (hb hbytes d1) rfl rfl ?_
    exact Steps.refl _)
  by_cases hxy : x = y
  · have c2 : Steps p.tables e below (s₁.setTop (entryFrame m #[.ref x, .ref y] 3)) (s₁.setTop (mkF m 6 #[.val (.ref x), .val (.ref y), .unset] [.int 1])) := c1.trans (by
      refine acmpNo X0.here hexec rfl (hb hbytes d2) rfl rfl rfl (by simp [acmp, hxy]) ?_
      refine iconstV X0.here hexec rfl 1 (hb hbytes d5) (by decide) ?_
      exact Steps.refl _)
    subst hxy
    have ec : cd = cd' := by
      obtain ⟨D, fd, a1, a2, a3⟩ := hx.2.2.1
      obtain ⟨D', fd', b1, b2, b3⟩ := hy.2.2.1
      cases a1.symm.trans b1
      obtain ⟨q1, q2, q3, q4⟩ := a2.1
      obtain ⟨r1, r2, r3, r4⟩ := b2.1
      cases q4.symm.trans r4
      cases a3.symm.trans b3; rfl
    have et : t = t' := by
      obtain ⟨D, fd, a1, a2, a3⟩ := hx.2.1
      obtain ⟨D', fd', b1, b2, b3⟩ := hy.2.1
      cases a1.symm.trans b1
      obtain ⟨q1, q2, q3, q4⟩ := a2.1
      obtain ⟨r1, r2, r3, r4⟩ := b2.1
      cases q4.symm.trans r4
      cases a3.symm.trans b3; rfl
    subst ec et
    have ev : V = V' := by cases hx.2.2.2.1.1.symm.trans hy.2.2.2.1.1; rfl
    subst ev
    have hs : SameT n f k g := (Cod.eqv hx.2.2.2.2.1 hy.2.2.2.2.1 hx.2.2.2.2.2 hy.2.2.2.2.2).mp ⟨rfl, fun _ _ => rfl⟩
    exact ⟨s₁, some (.int 1), _, _, _, X0, rfl, rfl, rfl, (fun h => by cases h), ⟨1, rfl, hh0, Or.inl ⟨rfl, hs⟩⟩, fun fs hl => c2.trans (X0.ireturnOut hexec hret rfl (Or.inr (Or.inl rfl)) (hb hbytes d6) hl)⟩
  · have c2 : Steps p.tables e below (s₁.setTop (entryFrame m #[.ref x, .ref y] 3)) (s₁.setTop (mkF m 8 #[.val (.ref x), .val (.ref y), .unset] [.ref y])) := c1.trans (by
      refine acmpYes X0.here hexec rfl (pc0 := 2) rfl (hb hbytes d2) rfl rfl rfl (by simp [acmp, hxy]) (by decide) rfl ?_
      refine XS.aloadN X0.here hexec rfl (hb hbytes d7) rfl rfl ?_
      exact Steps.refl _)
    obtain ⟨T3, X3, q3, st3⟩ := cinst X0 hexec hown (wk W (.classLink "java/lang/String" 10 "java/lang/String")) (hy.mv X0.warmed.alike hh0).1 (g := (mkF m 8 #[.val (.ref x), .val (.ref y), .unset] [.ref y])) rfl (rest := []) rfl (hb hbytes d8)
    have hh3 := q3.trans hh0
    have c4 : Steps p.tables e below (s₁.setTop (entryFrame m #[.ref x, .ref y] 3)) (T3.setTop (mkF m 15 #[.val (.ref x), .val (.ref y), .unset] [.ref y])) := (c2.trans (st3 _ (Steps.refl _))).trans (by
      refine XS.ifNo X3.here hexec rfl (hb hbytes d11) rfl (i0_eq_f (by decide)) ?_
      refine XS.aloadN X3.here hexec rfl (hb hbytes d14) rfl rfl ?_
      exact Steps.refl _)
    obtain ⟨T5, X5, q5, st5⟩ := cself X3 hexec hown (wk W (.classLink "java/lang/String" 10 "java/lang/String")) (hy.mv X3.warmed.alike hh3).1 (g := (mkF m 15 #[.val (.ref x), .val (.ref y), .unset] [.ref y])) rfl (rest := []) rfl (hb hbytes d15)
    have hh5 := q5.trans hh3
    have c6 : Steps p.tables e below (s₁.setTop (entryFrame m #[.ref x, .ref y] 3)) (T5.setTop (mkF m 19 #[.val (.ref x), .val (.ref y), .val (.ref y)] [])) := (c4.trans (st5 _ (Steps.refl _))).trans (by
      refine XS.astoreN X5.here hexec rfl (hb hbytes d18) rfl rfl rfl ?_
      exact Steps.refl _)
    obtain ⟨T7, X7, q7, st7⟩ := X5.sget hexec hown (wk W (.fieldLink "java/lang/String" 38 "java/lang/String" "COMPACT_STRINGS" "Z")) s1 (fun _ _ h => by rw [hh5]; exact h) (g := (mkF m 19 #[.val (.ref x), .val (.ref y), .val (.ref y)] [])) rfl (hb hbytes d19)
    have hh7 := q7.trans hh5
    have c8 : Steps p.tables e below (s₁.setTop (entryFrame m #[.ref x, .ref y] 3)) (T7.setTop (mkF m 26 #[.val (.ref x), .val (.ref y), .val (.ref y)] [.ref x])) := (c6.trans (st7 _ (Steps.refl _))).trans (by
      refine XS.ifNo X7.here hexec rfl (hb hbytes d22) rfl (i0_eq_f hz) ?_
      refine XS.aloadN X7.here hexec rfl (hb hbytes d25) rfl rfl ?_
      exact Steps.refl _)
    obtain ⟨T9, X9, q9, st9⟩ := X7.hget hexec hown (wk W (.fieldLink "java/lang/String" 15 "java/lang/String" "coder" "B")) (hx.mv X7.warmed.alike hh7).2.2.1 (g := (mkF m 26 #[.val (.ref x), .val (.ref y), .val (.ref y)] [.ref x])) rfl (rest := []) rfl (hb hbytes d26)
    have hh9 := q9.trans hh7
    have c10 : Steps p.tables e below (s₁.setTop (entryFrame m #[.ref x, .ref y] 3)) (T9.setTop (mkF m 30 #[.val (.ref x), .val (.ref y), .val (.ref y)] [.ref y, .int cd])) := (c8.trans (st9 _ (Steps.refl _))).trans (by
      refine XS.aloadN X9.here hexec rfl (hb hbytes d29) rfl rfl ?_
      exact Steps.refl _)
    obtain ⟨T11, X11, q11, st11⟩ := X9.hget hexec hown (wk W (.fieldLink "java/lang/String" 15 "java/lang/String" "coder" "B")) (hy.mv X9.warmed.alike hh9).2.2.1 (g := (mkF m 30 #[.val (.ref x), .val (.ref y), .val (.ref y)] [.ref y, .int cd])) rfl (rest := [.int cd]) rfl (hb hbytes d30)
    have hh11 := q11.trans hh9
    have c12 : Steps p.tables e below (s₁.setTop (entryFrame m #[.ref x, .ref y] 3)) (T11.setTop (mkF m 33 #[.val (.ref x), .val (.ref y), .val (.ref y)] [.int cd', .int cd])) := c10.trans (st11 _ (Steps.refl _))
    by_cases hcd : cd = cd'
    · subst hcd
      have c13 : Steps p.tables e below (s₁.setTop (entryFrame m #[.ref x, .ref y] 3)) (T11.setTop (mkF m 37 #[.val (.ref x), .val (.ref y), .val (.ref y)] [.ref x])) := c12.trans (by
        refine XS.icmpNo X11.here hexec rfl (hb hbytes d33) rfl (ii_ne_f rfl) ?_
        refine XS.aloadN X11.here hexec rfl (hb hbytes d36) rfl rfl ?_
        exact Steps.refl _)
      obtain ⟨T14, X14, q14, st14⟩ := X11.hget hexec hown (wk W (.fieldLink "java/lang/String" 9 "java/lang/String" "value" "[B")) (hx.mv X11.warmed.alike hh11).2.1 (g := (mkF m 37 #[.val (.ref x), .val (.ref y), .val (.ref y)] [.ref x])) rfl (rest := []) rfl (hb hbytes d37)
      have hh14 := q14.trans hh11
      have c15 : Steps p.tables e below (s₁.setTop (entryFrame m #[.ref x, .ref y] 3)) (T14.setTop (mkF m 41 #[.val (.ref x), .val (.ref y), .val (.ref y)] [.ref y, .ref t])) := (c13.trans (st14 _ (Steps.refl _))).trans (by
        refine XS.aloadN X14.here hexec rfl (hb hbytes d40) rfl rfl ?_
        exact Steps.refl _)
      obtain ⟨T16, X16, q16, st16⟩ := X14.hget hexec hown (wk W (.fieldLink "java/lang/String" 9 "java/lang/String" "value" "[B")) (hy.mv X14.warmed.alike hh14).2.1 (g := (mkF m 41 #[.val (.ref x), .val (.ref y), .val (.ref y)] [.ref y, .ref t])) rfl (rest := [.ref t]) rfl (hb hbytes d41)
      have hh16 := q16.trans hh14
      have c17 : Steps p.tables e below (s₁.setTop (entryFrame m #[.ref x, .ref y] 3)) (T16.setTop (mkF m 44 #[.val (.ref x), .val (.ref y), .val (.ref y)] [.ref t', .ref t])) := c15.trans (st16 _ (Steps.refl _))
      obtain ⟨v18, T18, X18, E18, g18⟩ := X16.callS hexec (LEq.law l t V t' V') hown (wks W (staticW "java/lang/String" 541 LEq.yN)) (wk W LEq.tab) (W := 0) (Nat.le_of_ble_eq_true rfl) (Nat.le_of_ble_eq_true rfl) (Nat.le_refl _) (Nat.le_refl _) (g := (mkF m 44 #[.val (.ref x), .val (.ref y), .val (.ref y)] [.ref t', .ref t])) rfl (by rw [hml]; rfl) c17 (argsL := [.ref t, .ref t']) (rest := []) rfl rfl (by show 2 * 0 + 0 ≤ _; decide) (hb hbytes d44) (⟨rfl, hx.2.2.2.1.mv X16.warmed.alike hh16, hx.2.2.2.2.1.ty, hy.2.2.2.1.mv X16.warmed.alike hh16, hy.2.2.2.2.1.ty⟩)
      obtain ⟨v, rfl, q18, hv⟩ := E18
      have iff := Cod.eqv hx.2.2.2.2.1 hy.2.2.2.2.1 hx.2.2.2.2.2 hy.2.2.2.2.2
      rcases hv with ⟨rfl, he⟩ | ⟨rfl, he⟩
      · have c19 : Steps p.tables e below (s₁.setTop (entryFrame m #[.ref x, .ref y] 3)) (T18.setTop (mkF m 55 #[.val (.ref x), .val (.ref y), .val (.ref y)] [.int 1])) := Steps.trans g18 (by
          refine XS.ifNo X18.here hexec rfl (hb hbytes d47) rfl (i0_eq_f (by decide)) ?_
          refine iconstV X18.here hexec rfl 1 (hb hbytes d50) (by decide) ?_
          refine XS.goto X18.here hexec rfl (pc0 := 51) rfl (hb hbytes d51) (by decide) rfl ?_
          exact Steps.refl _)
        exact ⟨T18, some (.int 1), _, _, _, X18, rfl, rfl, rfl, (fun h => by cases h), ⟨1, rfl, q18.trans hh16, Or.inl ⟨rfl, iff.mp he⟩⟩, fun fs hl => c19.trans (X18.ireturnOut hexec hret rfl (Or.inr (Or.inl rfl)) (hb hbytes d55) hl)⟩
      · have c19 : Steps p.tables e below (s₁.setTop (entryFrame m #[.ref x, .ref y] 3)) (T18.setTop (mkF m 55 #[.val (.ref x), .val (.ref y), .val (.ref y)] [.int 0])) := Steps.trans g18 (by
          refine XS.ifYes X18.here hexec rfl (pc0 := 47) rfl (hb hbytes d47) rfl (i0_eq_t rfl) (by decide) rfl ?_
          refine iconstV X18.here hexec rfl 0 (hb hbytes d54) (by decide) ?_
          exact Steps.refl _)
        exact ⟨T18, some (.int 0), _, _, _, X18, rfl, rfl, rfl, (fun h => by cases h), ⟨0, rfl, q18.trans hh16, Or.inr ⟨rfl, fun q => he (iff.mpr q)⟩⟩, fun fs hl => c19.trans (X18.ireturnOut hexec hret rfl (Or.inr (Or.inl rfl)) (hb hbytes d55) hl)⟩
    · have c13 : Steps p.tables e below (s₁.setTop (entryFrame m #[.ref x, .ref y] 3)) (T11.setTop (mkF m 55 #[.val (.ref x), .val (.ref y), .val (.ref y)] [.int 0])) := c12.trans (by
        refine XS.icmpYes X11.here hexec rfl (pc0 := 33) rfl (hb hbytes d33) rfl (ii_ne_t hcd) (by decide) rfl ?_
        refine iconstV X11.here hexec rfl 0 (hb hbytes d54) (by decide) ?_
        exact Steps.refl _)
      exact ⟨T11, some (.int 0), _, _, _, X11, rfl, rfl, rfl, (fun h => by cases h), ⟨0, rfl, hh11, Or.inr ⟨rfl, Cod.dif hx.2.2.2.2.1 hy.2.2.2.2.1 hcd⟩⟩, fun fs hl => c13.trans (X11.ireturnOut hexec hret rfl (Or.inr (Or.inl rfl)) (hb hbytes d55) hl)⟩
theorem pays {l : Launch} {R : Room} {p : Program} {e : Env} {below : List Frame} {s : State} {sargs : Array Value} {len W : Nat} (x t : Addr) (V : Cell) (cd : Int32) (n : Nat) (f : Nat → Int32) (y t' : Addr) (V' : Cell) (cd' : Int32) (k : Nat) (g : Nat → Int32) (z : Int32) (htab : tab.before sargs s = true) (hfr : 2 ≤ R.frames) (hlo : W + 28 ≤ R.locals) :
    Back l R p e below s sargs yN len W (fun A₁ a₁ => A₁.cells + 0 ≤ R.cells ∧ A₁.slots + 0 ≤ R.slots ∧ P x t V cd n f y t' V' cd' k g z a₁ A₁.U) (fun A₁ _ v₁ B₁ => Says01 (SameT n f k g) v₁ A₁.U B₁.U ∧ B₁.locs = A₁.locs ++ [] ∧ B₁.cells = A₁.cells + 0 ∧ B₁.slots = A₁.slots + 0) :=
  (law l x t V cd n f y t' V' cd' k g z).pays htab hfr (by omega)
end SEq
end StrChars
namespace StrChars.Road
open Jvm Sem ClassFile Op Lib Jvm.Stand Jvm.Free Jvm.Free.XT
open Jvm.Lib.Cold (StaticIs)
/-- the words of String.equals(Object) -/
abbrev wordsEq : List Jvm.Cond := [.code SEq.yN SEq.yB 3 (some .boolean), .initialized ST, .classLink ST 10 ST, .fieldLink ST 38 ST "COMPACT_STRINGS" "Z", .fieldLink ST 15 ST "coder" "B", .fieldLink ST 9 ST "value" "[B", .methodLink ST 541 LEq.yN, .static LEq.yN, .code LEq.yN LEq.yB 3 (some .boolean), .initialized "java/lang/StringLatin1"]
theorem tabEq_of {a : Array Value} {s : State} (h : ∀ w ∈ wordsEq, w.before a s = true) : SEq.tab.before a s = true := by
  have hl : LEq.tab.before a s = true := unparts (wk h (.code LEq.yN LEq.yB 3 (some .boolean))) (wks h (.initialized LEq.yN.cls :: LEq.site))
  have q := consq hl h
  exact unparts (wk q (.code SEq.yN SEq.yB 3 (some .boolean))) (wks q (.initialized SEq.yN.cls :: SEq.site))
theorem movedEq {Z s : State} {a0 args : Array Value} (hZ : Z.Warmed39 s.vm) (hw : ∀ d ∈ wordsEq, d.before a0 Z = true) : ∀ d ∈ wordsEq, d.before args s = true := fun d hd => by
  have t : ∀ d ∈ wordsEq, (d.onTables && d.keepsFace) = true := by decide +kernel
  exact RoadKit.mv hZ (hw d hd) (t d hd)
/-- the road's facts of a String, as the laws ask it -/
theorem txt_of {Z U : State} {a0 : Array Value} {kI : Nat} (wi : (Jvm.Cond.instantiable ST kI).before a0 Z = true) (al : Z.vm.Alike U.vm) {x t : Addr} {kb : ClassId} {cs : List Int32} {cd N2 : Int32} {vs : List Value} (E : RoadKit.Exa Z U.heap x ST) (V : RoadKit.Fld Z U.heap x ST "value" "[B" (.ref t)) (C : RoadKit.Fld Z U.heap x ST "coder" "B" (.int cd)) (K : RoadKit.Arv Z U.heap t kb .byte N2 vs (.int 0)) (hc : CodA cs cd N2 vs) (hb : ∀ c ∈ cs, ¬ c < 0 ∧ ¬ (65535 : Int32) < c) (l2 : cs.length ≤ 4000) :
    ∃ A, Txt x t A cd cs.length (fun j => cs.getD j 0) U := by
  obtain ⟨A, K1, K2, K3, K4, K5, K6⟩ := K
  have hcod := hc.cod (by omega) K3 K5
  obtain ⟨D, fV, fC, hB, F1, F2, g1, g2, -, -⟩ := strObj wi al E V C
  exact ⟨A, ⟨_, hB.2.2.1, D, hB.1, rfl, by cases q : D.vm <;> first | rfl | exact absurd q (hB.2.1.2 _)⟩, Has.of hB F1 g1, Has.of hB F2 g2, ⟨K1.1, State.isArrayOf_alike al K1.2.1, K1.2.2, by rcases hcod with ⟨-, q, -⟩ | ⟨-, q, -⟩ <;> omega⟩, hcod, fun j hj => by
    have e : cs.getD j 0 = cs[j] := by simp [List.getD_eq_getElem?_getD, hj]
    show ¬ cs.getD j 0 < 0 ∧ ¬ 65535 < cs.getD j 0
    rw [e]; exact hb _ (List.getElem_mem _)⟩
theorem same_list (cs ds : List Int32) : SameT cs.length (fun j => cs.getD j 0) ds.length (fun j => ds.getD j 0) ↔ cs = ds := by
  constructor
  · rintro ⟨e, q⟩
    refine List.ext_getElem e fun j h1 h2 => ?_
    have := q j h1
    simpa [List.getD_eq_getElem?_getD, h1, h2] using this
  · rintro rfl
    exact ⟨rfl, fun _ _ => rfl⟩
/-- **equals(Object) OF TWO SUCH STRINGS**: 1 just where the chars are the same -/
theorem eqW {p : Program} {l : Launch} {e : Env} {R : Room} {s : State} {args : Array Value} {below : List Frame} {len W : Nat} {Z : State} {a0 : Array Value} {h : Heap} (hZ : Z.Warmed39 s.vm) (hw : ∀ d ∈ wordsEq, d.before a0 Z = true) {kI : Nat} (wi : (Jvm.Cond.instantiable ST kI).before a0 Z = true)
    {x t : Addr} {kb : ClassId} {cs : List Int32} {cd N2 : Int32} {vs : List Value} (E : RoadKit.Exa Z h x ST) (V : RoadKit.Fld Z h x ST "value" "[B" (.ref t)) (C : RoadKit.Fld Z h x ST "coder" "B" (.int cd)) (K : RoadKit.Arv Z h t kb .byte N2 vs (.int 0)) (hc : CodA cs cd N2 vs) (hb : ∀ c ∈ cs, ¬ c < 0 ∧ ¬ (65535 : Int32) < c) (l2 : cs.length ≤ 4000)
    {y t' : Addr} {kb' : ClassId} {ds : List Int32} {cd' N2' : Int32} {vs' : List Value} (E' : RoadKit.Exa Z h y ST) (V' : RoadKit.Fld Z h y ST "value" "[B" (.ref t')) (C' : RoadKit.Fld Z h y ST "coder" "B" (.int cd')) (K' : RoadKit.Arv Z h t' kb' .byte N2' vs' (.int 0)) (hc' : CodA ds cd' N2' vs') (hb' : ∀ c ∈ ds, ¬ c < 0 ∧ ¬ (65535 : Int32) < c) (l2' : ds.length ≤ 4000)
    {z : Int32} (S : RoadKit.Sta Z h ST "COMPACT_STRINGS" "Z" (.int z)) (hz : ¬ z = 0) (hfr : 2 ≤ R.frames) (hlo : W + 28 ≤ R.locals) :
    Back l R p e below s args (⟨"java/lang/String", "equals", "(Ljava/lang/Object;)Z"⟩ : MethodName) len W (fun P a => a = #[.ref x, .ref y] ∧ P.U.heap = h ∧ P.cells + 0 ≤ R.cells ∧ P.slots + 0 ≤ R.slots)
      (fun P _ v B => ∃ L, (((v = some (.int 1) ∧ cs = ds) ∨ (v = some (.int 0) ∧ ¬ cs = ds)) ∧ L = [] ∧ B.U.heap = h) ∧ B.locs = P.locs ++ L ∧ B.cells = P.cells + 0 ∧ B.slots = P.slots + 0) := by
  intro m meth c P g ig mk a X hg hsize hdg hW hn hp'
  obtain ⟨rfl, rfl, r1, r2⟩ := hp'
  have al : Z.vm.Alike P.U.vm := hZ.alike.trans X.warmed.alike
  obtain ⟨A, hx⟩ := txt_of wi al E V C K hc hb l2
  obtain ⟨A', hy⟩ := txt_of wi al E' V' C' K' hc' hb' l2'
  obtain ⟨v, B, X', ⟨⟨w, hv, hh, hq⟩, hl, hk, hs⟩, st⟩ := SEq.pays x t A cd cs.length (fun j => cs.getD j 0) y t' A' cd' ds.length (fun j => ds.getD j 0) z (tabEq_of (movedEq hZ hw)) hfr hlo m meth c P g ig mk _ X hg hsize hdg hW hn ⟨r1, r2, rfl, hx, hy, sta_is al S, hz⟩
  refine ⟨v, B, X', ⟨[], ⟨?_, rfl, hh⟩, hl, hk, hs⟩, st⟩
  rcases hq with ⟨rfl, q⟩ | ⟨rfl, q⟩
  · exact Or.inl ⟨hv, (same_list cs ds).mp q⟩
  · exact Or.inr ⟨hv, fun e => q ((same_list cs ds).mpr e)⟩
end StrChars.Road
namespace StrChars.Road
open Jvm Sem ClassFile Op Lib Jvm.Stand Jvm.Free Jvm.Free.XT
open Jvm.Lib.Cold (StaticIs)
/-- what backV says of its String, as the contracts of this text ask it: cs's low bytes, coder 0 -/
theorem codOf {cs : List Int32} {n : Nat} (hn : cs.length = n) (hb : ∀ c ∈ cs, ¬ 255 < c) : CodA cs 0 (Int32.ofNat n) ((cs.map lo8).map Value.int) := Or.inl ⟨rfl, by rw [hn], by simp [List.map_map, Function.comp_def], hb⟩
end StrChars.Road
end Jvm.Pilot.@@N@@
namespace Jvm.Pilot.@@N@@
open Jvm Jvm.ClassFile Sem Op Lib Jvm.Free Jvm.Stand Jvm.LawKit Jvm.RoadKit Bundle Jvm.Pilot.@@N@@.Jvm.D
theorem wq {Z : State} {a0 : Array Value} {d : Jvm.Cond} (hw : ∀ d ∈ tables_1, d.before a0 Z = true) (i : Nat) (h : tables_1[i]? = some d) : d.before a0 Z = true := hw _ (List.mem_of_getElem? h)
def StrA (Z : State) (h : Heap) (x : Addr) (cs : List Int32) : Prop := ∃ (t : Addr) (kb : ClassId) (cd N2 : Int32) (vs : List Value), Exa Z h x "java/lang/String" ∧ Fld Z h x "java/lang/String" "value" "[B" (.ref t) ∧ Fld Z h x "java/lang/String" "coder" "B" (.int cd) ∧ Arv Z h t kb .byte N2 vs (.int 0) ∧ StrChars.Road.CodA cs cd N2 vs ∧ (∀ c ∈ cs, ¬ c < 0 ∧ ¬ (65535 : Int32) < c)
def Cmp (Z : State) (h : Heap) : Prop := ∃ z : Int32, Sta Z h "java/lang/String" "COMPACT_STRINGS" "Z" (.int z) ∧ ¬ z = 0
theorem Cmp.ext {Z : State} {h h' : Heap} (F : Cmp Z h) (E : Ext h h') : Cmp Z h' := by obtain ⟨z, S, q⟩ := F; exact ⟨z, S.ext E, q⟩
theorem StrA.ext {Z : State} {h h' : Heap} {x : Addr} {cs : List Int32} (F : StrA Z h x cs) (E : Ext h h') : StrA Z h' x cs := by
  obtain ⟨t, kb, cd, N2, vs, a1, a2, a3, a4, a5, a6⟩ := F
  exact ⟨t, kb, cd, N2, vs, a1.ext E, a2.ext E, a3.ext E, a4.ext E, a5, a6⟩
theorem StrA.exa {Z : State} {h : Heap} {x : Addr} {cs : List Int32} (F : StrA Z h x cs) : Exa Z h x "java/lang/String" := by obtain ⟨t, kb, cd, N2, vs, a1, -⟩ := F; exact a1
theorem up16 (cs : List Int32) (h : ∀ c ∈ cs, ¬ c < 0 ∧ ¬ (255 : Int32) < c) : ∀ c ∈ cs, ¬ c < 0 ∧ ¬ (65535 : Int32) < c := fun c hc => ⟨(h c hc).1, fun q => (h c hc).2 (by rw [Int32.lt_iff_toInt_lt] at q ⊢; have e1 : (65535 : Int32).toInt = 65535 := rfl; have e2 : (255 : Int32).toInt = 255 := rfl; omega)⟩
theorem and255_nat (x : Int32) : ∃ k : Fin 256, (x &&& (255 : Int32)) = Int32.ofNat k.val := by
  have h : (x &&& 255).toBitVec.toNat < 256 := by
    simp only [Int32.toBitVec_and, BitVec.toNat_and]
    exact Nat.lt_succ_of_le Nat.and_le_right
  refine ⟨⟨_, h⟩, ?_⟩
  apply Int32.toBitVec_inj.mp
  show _ = BitVec.ofNat 32 _
  rw [BitVec.ofNat_toNat]; simp
def C8 (c : Int32) : Prop := (¬ c < 0 ∧ ¬ (255 : Int32) < c) ∧ nar .char c = c
theorem c8_and (x : Int32) : C8 ((x &&& (255 : Int32)).toUInt32.toUInt16.toUInt32.toInt32) := by
  obtain ⟨k, e⟩ := and255_nat x
  rw [e]
  have t : ∀ k : Fin 256, (¬ ((Int32.ofNat k.val).toUInt32.toUInt16.toUInt32.toInt32) < 0 ∧ ¬ (255 : Int32) < ((Int32.ofNat k.val).toUInt32.toUInt16.toUInt32.toInt32)) ∧ nar .char ((Int32.ofNat k.val).toUInt32.toUInt16.toUInt32.toInt32) = ((Int32.ofNat k.val).toUInt32.toUInt16.toUInt32.toInt32) := by decide +kernel
  exact t k
theorem c8_nil : ∀ c ∈ ([] : List Int32), ¬ c < 0 ∧ ¬ (255 : Int32) < c := fun _ q => nomatch q
theorem c8_cons {c : Int32} {L : List Int32} (q : ¬ c < 0 ∧ ¬ (255 : Int32) < c) (r : ∀ c ∈ L, ¬ c < 0 ∧ ¬ (255 : Int32) < c) : ∀ x ∈ c :: L, ¬ x < 0 ∧ ¬ (255 : Int32) < x := fun x z => (List.mem_cons.mp z).elim (fun u => u ▸ q) (r x)
theorem strOf {Z : State} {h : Heap} {x t : Addr} {kb : ClassId} {cs : List Int32} {n : Nat} {N : Int32} (hn : cs.length = n) (hN : N = Int32.ofNat n) (hp : ∀ c ∈ cs, ¬ c < 0 ∧ ¬ (255 : Int32) < c) (E : Exa Z h x "java/lang/String") (V : Fld Z h x "java/lang/String" "value" "[B" (.ref t)) (C : Fld Z h x "java/lang/String" "coder" "B" (.int 0)) (K : Arv Z h t kb .byte N ((cs.map (fun c => c.toInt8.toInt32)).map Value.int) (.int 0)) : StrA Z h x cs := by
  subst hN
  exact ⟨t, kb, 0, _, _, E, V, C, K, StrChars.Road.codOf hn (fun c hc => (hp c hc).2), up16 cs hp⟩
theorem ws_new : ∀ d ∈ StrChars.Road.words, d ∈ tables_1 := by decide +kernel
theorem backS {p : Program} {l : Launch} {e : Env} {R : Room} {s : State} {args : Array Value} {below : List Frame} {len W : Nat} {Z : State} {a0 : Array Value} {h : Heap} (hZ : Z.Warmed39 s.vm) (hw : ∀ d ∈ tables_1, d.before a0 Z = true) {x b : Addr} {kC : ClassId} {cs : List Int32} {N : Int32} {n n0 : Nat} (hx0 : n0 ≤ x) (hh0 : n0 ≤ h.size) (E : Exa Z h x "java/lang/String") (V : Fld Z h x "java/lang/String" "value" "[B" .null) (C : Fld Z h x "java/lang/String" "coder" "B" (.int 0)) (K : Arv Z h b kC .char N (cs.map Value.int) (.int 0)) (CS : Cmp Z h) (hn : cs.length = n) (hN : N = Int32.ofNat n) (l0 : 0 < n) (l2 : n ≤ 4000) (hp : ∀ c ∈ cs, ¬ c < 0 ∧ ¬ (255 : Int32) < c) (hfr : 4 ≤ R.frames) (hlo : W + 65 ≤ R.locals) :
    Back l R p e below s args (⟨"java/lang/String", "<init>", "([C)V"⟩ : MethodName) len W (fun P a => a = #[.ref x, .ref b] ∧ P.U.heap = h ∧ P.cells + 1 ≤ R.cells ∧ P.slots + n ≤ R.slots)
      (fun P _ v B => ∃ L, (v = none ∧ Fr n0 L ∧ Keep h B.U.heap [x] ∧ StrA Z B.U.heap x cs) ∧ B.locs = P.locs ++ L ∧ B.cells = P.cells + 1 ∧ B.slots = P.slots + n) := by
  obtain ⟨z, S, hz⟩ := CS
  refine Back.mono (StrChars.Road.backV hZ (fun d hd => hw d (ws_new d hd)) (kI := 4) (wq hw 6 rfl) hx0 hh0 E V C K S hz hn hN l0 l2 hp rfl hfr hlo) (fun _ _ hp => hp) (fun P a v B _ hq => ?_)
  obtain ⟨L, ⟨q1, q2, q3, q4, q5, t, kb, -, -, -, q6, q7⟩, hl⟩ := hq
  exact ⟨L, ⟨q1, q2, q3, strOf hn hN hp q4 q6 q5 q7⟩, hl⟩
theorem ws_eq : ∀ d ∈ StrChars.Road.wordsEq, d ∈ tables_1 := by decide +kernel
theorem eqS {p : Program} {l : Launch} {e : Env} {R : Room} {s : State} {args : Array Value} {below : List Frame} {len W : Nat} {Z : State} {a0 : Array Value} {h : Heap} (hZ : Z.Warmed39 s.vm) (hw : ∀ d ∈ tables_1, d.before a0 Z = true) {x y : Addr} {cs ds : List Int32} (A : StrA Z h x cs) (B : StrA Z h y ds) (CS : Cmp Z h) (l1 : cs.length ≤ 4000) (l2 : ds.length ≤ 4000) (hfr : 2 ≤ R.frames) (hlo : W + 28 ≤ R.locals) :
    Back l R p e below s args (⟨"java/lang/String", "equals", "(Ljava/lang/Object;)Z"⟩ : MethodName) len W (fun P a => a = #[.ref x, .ref y] ∧ P.U.heap = h ∧ P.cells + 0 ≤ R.cells ∧ P.slots + 0 ≤ R.slots)
      (fun P _ v B => ∃ L, (((v = some (.int 1) ∧ cs = ds) ∨ (v = some (.int 0) ∧ ¬ cs = ds)) ∧ L = [] ∧ B.U.heap = h) ∧ B.locs = P.locs ++ L ∧ B.cells = P.cells + 0 ∧ B.slots = P.slots + 0) := by
  obtain ⟨z, S, hz⟩ := CS
  obtain ⟨t, kb, cd, N2, vs, a1, a2, a3, a4, a5, a6⟩ := A
  obtain ⟨t', kb', cd', N2', vs', b1, b2, b3, b4, b5, b6⟩ := B
  exact StrChars.Road.eqW hZ (fun d hd => hw d (ws_eq d hd)) (kI := 4) (wq hw 6 rfl) a1 a2 a3 a4 a5 a6 l1 b1 b2 b3 b4 b5 b6 l2 S hz hfr hlo
theorem pd_0 : parseMethodDescriptor "()[Lcom/example/driftmark/driftmark/TradeKind;" = some ⟨[], some (.array (.object "com/example/driftmark/driftmark/TradeKind"))⟩ := by decide +kernel
theorem pd_1 : parseMethodDescriptor "(Ljava/lang/Object;)Z" = some ⟨[(.object "java/lang/Object")], some .boolean⟩ := by decide +kernel
theorem pd_2 : parseMethodDescriptor "([C)V" = some ⟨[(.array .char)], none⟩ := by decide +kernel
theorem pd_3 : parseMethodDescriptor "(Ljava/lang/String;)Lcom/example/driftmark/driftmark/TradeKind;" = some ⟨[(.object "java/lang/String")], some (.object "com/example/driftmark/driftmark/TradeKind")⟩ := by decide +kernel
theorem pd_4 : parseMethodDescriptor "()Ljava/lang/String;" = some ⟨[], some (.object "java/lang/String")⟩ := by decide +kernel
def Bg (Z : State) (h : Heap) (va w0 w1 w2 c0 c1 c2 : Addr) (kA : ClassId) : Prop := Sta Z h "com/example/driftmark/driftmark/TradeKind" "$VALUES" "[Lcom/example/driftmark/driftmark/TradeKind;" (.ref va) ∧ Exa Z h va "[Lcom/example/driftmark/driftmark/TradeKind;" ∧ Arh Z h va kA (.object "com/example/driftmark/driftmark/TradeKind") (3 : Int32) [] [(.ref w0), (.ref w1), (.ref w2)] .null ∧ Sta Z h "com/example/driftmark/driftmark/TradeKind" "AUCTION" "Lcom/example/driftmark/driftmark/TradeKind;" (.ref w0) ∧ Sta Z h "com/example/driftmark/driftmark/TradeKind" "RECONFIGURATION" "Lcom/example/driftmark/driftmark/TradeKind;" (.ref w1) ∧ Sta Z h "com/example/driftmark/driftmark/TradeKind" "ASSIGNMENT" "Lcom/example/driftmark/driftmark/TradeKind;" (.ref w2) ∧ Fld Z h w0 "com/example/driftmark/driftmark/TradeKind" "code" "Ljava/lang/String;" (.ref c0) ∧ Fld Z h w1 "com/example/driftmark/driftmark/TradeKind" "code" "Ljava/lang/String;" (.ref c1) ∧ Fld Z h w2 "com/example/driftmark/driftmark/TradeKind" "code" "Ljava/lang/String;" (.ref c2) ∧ StrA Z h c0 ([97, 117, 99, 116, 105, 111, 110] : List Int32) ∧ StrA Z h c1 ([114, 101, 99, 111, 110, 102, 105, 103, 117, 114, 97, 116, 105, 111, 110] : List Int32) ∧ StrA Z h c2 ([97, 115, 115, 105, 103, 110, 109, 101, 110, 116] : List Int32) ∧ Cmp Z h ∧ Exa Z h w0 "com/example/driftmark/driftmark/TradeKind" ∧ Exa Z h w1 "com/example/driftmark/driftmark/TradeKind" ∧ Exa Z h w2 "com/example/driftmark/driftmark/TradeKind"
theorem Bg.ext {Z : State} {h h' : Heap} {va w0 w1 w2 c0 c1 c2 : Addr} {kA : ClassId} (B : Bg Z h va w0 w1 w2 c0 c1 c2 kA) (E : Ext h h') : Bg Z h' va w0 w1 w2 c0 c1 c2 kA := by
  obtain ⟨q0, q1, q2, q3, q4, q5, q6, q7, q8, q9, q10, q11, q12, q13, q14, q15⟩ := B
  exact ⟨q0.ext E, q1.ext E, q2.ext E, q3.ext E, q4.ext E, q5.ext E, q6.ext E, q7.ext E, q8.ext E, q9.ext E, q10.ext E, q11.ext E, q12.ext E, q13.ext E, q14.ext E, q15.ext E⟩
theorem dv_0 : decode prog_19_method_1_code 0 = .ok (.getstatic 13, 3) := by decide +kernel
theorem dv_3 : decode prog_19_method_1_code 3 = .ok (.invokevirtual 17, 3) := by decide +kernel
theorem dv_6 : decode prog_19_method_1_code 6 = .ok (.checkcast 18, 3) := by decide +kernel
theorem dv_9 : decode prog_19_method_1_code 9 = .ok (.areturn, 1) := by decide +kernel
theorem pn_values : plainName "com/example/driftmark/driftmark/TradeKind" = true := by first | (simp [plainName, overriddenIn]; done) | decide +kernel
theorem ef_values (m : MethodId)  : entryFrame m #[] 0 = mkF m 0 #[] [] := by first | (simp [entryFrame, mkF, argsToLocals, Value.category]; done) | rfl
def Q_values (Z : State) (va w0 w1 w2 c0 c1 c2 : Addr) (kA : ClassId) (h0 : Heap) (n0 : Nat) (v : Option Value) (h : Heap) (L : List Loc) : Prop := ∃ a, v = some (.ref a) ∧ Fr n0 L ∧ Ext h0 h ∧ Arh Z h a kA (.object "com/example/driftmark/driftmark/TradeKind") (3 : Int32) [] [(.ref w0), (.ref w1), (.ref w2)] .null
set_option maxRecDepth 65536 in
set_option maxHeartbeats 40000000 in
theorem rm_values (l : Launch) (Z : State) (a0 : Array Value) (hw : ∀ d ∈ tables_1, d.before a0 Z = true) (ws : List Jvm.Cond) (va w0 w1 w2 c0 c1 c2 : Addr) (kA : ClassId) (h0 : Heap) (n0 : Nat) (Z0 : n0 ≤ h0.size) (B : Bg Z h0 va w0 w1 w2 c0 c1 c2 kA) :
    MetFree l (⟨"com/example/driftmark/driftmark/TradeKind", "values", "()[Lcom/example/driftmark/driftmark/TradeKind;"⟩ : MethodName) (head1 (Jvm.Cond.code (⟨"com/example/driftmark/driftmark/TradeKind", "values", "()[Lcom/example/driftmark/driftmark/TradeKind;"⟩ : MethodName) prog_19_method_1_code 0 (some (.array (.object "com/example/driftmark/driftmark/TradeKind"))) :: ws) ({ frames := 1, cells := 1, slots := 3, locals := 14 } : Room)) (fun a U => a = #[] ∧ Z.Warmed39 U.vm ∧ U.heap = h0) (fun _ _ _ _ _ => True) (fun _ U o U' => ∃ v L, o = .returned v ∧ Q_values Z va w0 w1 w2 c0 c1 c2 kA h0 n0 v U'.heap L ∧ FrameEnd U o U' L ({ frames := 1, cells := 1, slots := 3, locals := 14 } : Room).cells ({ frames := 1, cells := 1, slots := 3, locals := 14 } : Room).slots) := by
  refine MetFree.of_bodySF (plainFor_of_name pn_values) hisR ?_
  intro p e s m args below meth c s₁ Bd hml0 hP hK
  obtain ⟨rfl, hZ, hh⟩ := hP
  have hx := Bd.exec
  have hby := Bd.bytes
  have hml : c.maxLocals = 0 := hml0
  have hown : s.vm.findClass "com/example/driftmark/driftmark/TradeKind" = some m.cls := findClass_of_methodNamed Bd.named
  have hnm := (name_of_methodNamed Bd.named Bd.method).1
  have X0 : Stand p l e ({ frames := 1, cells := 1, slots := 3, locals := 14 } : Room) s m #[] below meth c s₁ [] 0 0 := Stand.of_body Bd
  have e0 : s₁.heap = h0 := by rw [← hh, Bd.state]; rfl
  have N0 := Fr.nil n0
  show Rch p e below s₁ (entryFrame m #[] 0) (fun U o => ∃ v L, o = .returned v ∧ Q_values Z va w0 w1 w2 c0 c1 c2 kA h0 n0 v U.heap L ∧ FrameEnd s o U L ({ frames := 1, cells := 1, slots := 3, locals := 14 } : Room).cells ({ frames := 1, cells := 1, slots := 3, locals := 14 } : Room).slots)
  refine Rch.cast (ef_values m ) ?_
  show Rch p e below s₁ (mkF m 0 #[] []) _
  obtain ⟨T1, X1, e1, st1⟩ := getS2 X0 hx hZ hown (host := "") (Or.inl (wq hw 40 rfl)) Via.refl e0 B.1 (g := (mkF m 0 #[] [])) rfl (hb hby dv_0)
  refine Rch.st st1 ?_
  show Rch p e below T1 (mkF m 3 #[] [(.ref va)]) _
  obtain ⟨T2, h2, X2, e2, E2, M2, A2, st2⟩ := cloneH X1 hx hZ hown (wq hw 42 rfl) (wq hw 43 rfl) (wq hw 47 rfl) (wq hw 45 rfl) (wq hw 46 rfl) (wq hw 48 rfl) e1 B.2.2.1 B.2.1 (g := (mkF m 3 #[] [(.ref va)])) rfl (by rw [hml]; rfl) rfl (hb hby dv_3) (by decide) (W := 0) (cap := 3) (by show 2 * 0 + _ ≤ _; exact Nat.le_of_eq rfl) (by decide) (by decide) (by decide) (by decide)
  obtain ⟨a2, g2⟩ : ∃ z, z = h0.size := ⟨_, rfl⟩
  rw [← g2] at M2 A2 st2
  have Ex3 : Ext h0 h2 := E2
  refine Rch.st st2 ?_
  show Rch p e below T2 (mkF m 6 #[] [(.ref a2)]) _
  obtain ⟨T4, X4, e4, st4⟩ := castY X2 hx hZ hown (wq hw 52 rfl) e2 (Ins.self A2) (g := (mkF m 6 #[] [(.ref a2)])) rfl rfl (hb hby dv_6)
  refine Rch.st st4 ?_
  show Rch p e below T4 (mkF m 9 #[] [(.ref a2)]) _
  exact Rch.fin (Q := Q_values Z va w0 w1 w2 c0 c1 c2 kA h0 n0) X4 (v := some (.ref a2)) (fun h => by rw [Bd.returns] at h; cases h) (BodyLoose.notSynchronized Bd) (fun fs hr => retR X4 hx Bd.returns rfl rfl (hb hby dv_9) hr) (by rw [e4]; exact ⟨a2, rfl, N0, Ex3, M2⟩) (by decide) (by decide)
theorem dp_0 : decode prog_19_method_4_code 0 = .ok (.invokestatic 40, 3) := by decide +kernel
theorem dp_3 : decode prog_19_method_4_code 3 = .ok (.astore_n 1, 1) := by decide +kernel
theorem dp_4 : decode prog_19_method_4_code 4 = .ok (.aload_n 1, 1) := by decide +kernel
theorem dp_5 : decode prog_19_method_4_code 5 = .ok (.arraylength, 1) := by decide +kernel
theorem dp_6 : decode prog_19_method_4_code 6 = .ok (.istore_n 2, 1) := by decide +kernel
theorem dp_7 : decode prog_19_method_4_code 7 = .ok (.iconst 0, 1) := by decide +kernel
theorem dp_8 : decode prog_19_method_4_code 8 = .ok (.istore_n 3, 1) := by decide +kernel
theorem dp_9 : decode prog_19_method_4_code 9 = .ok (.iload_n 3, 1) := by decide +kernel
theorem dp_10 : decode prog_19_method_4_code 10 = .ok (.iload_n 2, 1) := by decide +kernel
theorem dp_11 : decode prog_19_method_4_code 11 = .ok (.if_icmp .ge 29, 3) := by decide +kernel
theorem dp_14 : decode prog_19_method_4_code 14 = .ok (.aload_n 1, 1) := by decide +kernel
theorem dp_15 : decode prog_19_method_4_code 15 = .ok (.iload_n 3, 1) := by decide +kernel
theorem dp_16 : decode prog_19_method_4_code 16 = .ok (.aaload, 1) := by decide +kernel
theorem dp_17 : decode prog_19_method_4_code 17 = .ok (.astore 4, 2) := by decide +kernel
theorem dp_19 : decode prog_19_method_4_code 19 = .ok (.aload 4, 2) := by decide +kernel
theorem dp_21 : decode prog_19_method_4_code 21 = .ok (.getfield 32, 3) := by decide +kernel
theorem dp_24 : decode prog_19_method_4_code 24 = .ok (.aload_n 0, 1) := by decide +kernel
theorem dp_25 : decode prog_19_method_4_code 25 = .ok (.invokevirtual 44, 3) := by decide +kernel
theorem dp_28 : decode prog_19_method_4_code 28 = .ok (.ifCond .eq 6, 3) := by decide +kernel
theorem dp_31 : decode prog_19_method_4_code 31 = .ok (.aload 4, 2) := by decide +kernel
theorem dp_33 : decode prog_19_method_4_code 33 = .ok (.areturn, 1) := by decide +kernel
theorem dp_34 : decode prog_19_method_4_code 34 = .ok (.iinc 3 1, 3) := by decide +kernel
theorem dp_37 : decode prog_19_method_4_code 37 = .ok (.goto (-28), 3) := by decide +kernel
theorem dp_40 : decode prog_19_method_4_code 40 = .ok (.new 50, 3) := by decide +kernel
theorem dp_43 : decode prog_19_method_4_code 43 = .ok (.dup, 1) := by decide +kernel
theorem dp_44 : decode prog_19_method_4_code 44 = .ok (.aload_n 0, 1) := by decide +kernel
theorem dp_45 : decode prog_19_method_4_code 45 = .ok (.invokedynamic 52, 5) := by decide +kernel
theorem dp_50 : decode prog_19_method_4_code 50 = .ok (.invokespecial 56, 3) := by decide +kernel
theorem dp_53 : decode prog_19_method_4_code 53 = .ok (.athrow, 1) := by decide +kernel
theorem pn_parse : plainName "com/example/driftmark/driftmark/TradeKind" = true := by first | (simp [plainName, overriddenIn]; done) | decide +kernel
theorem ef_parse (m : MethodId) (x0 : Addr) : entryFrame m #[(.ref x0)] 5 = mkF m 0 #[.val (.ref x0), .unset, .unset, .unset, .unset] [] := by first | (simp [entryFrame, mkF, argsToLocals, Value.category]; done) | rfl
def Q_parse (Z : State) (a1 : Addr) (cs : List Int32) (va w0 w1 w2 c0 c1 c2 : Addr) (kA : ClassId) (h0 : Heap) (n0 : Nat) (v : Option Value) (h : Heap) (L : List Loc) : Prop := ∃ w, v = some (.ref w) ∧ Fr n0 L ∧ Ext h0 h ∧ (cs = ([97, 117, 99, 116, 105, 111, 110] : List Int32) → w = w0) ∧ (cs = ([114, 101, 99, 111, 110, 102, 105, 103, 117, 114, 97, 116, 105, 111, 110] : List Int32) → w = w1) ∧ (cs = ([97, 115, 115, 105, 103, 110, 109, 101, 110, 116] : List Int32) → w = w2)
set_option maxRecDepth 65536 in
set_option maxHeartbeats 40000000 in
theorem rm_parse (l : Launch) (Z : State) (a0 : Array Value) (hw : ∀ d ∈ tables_1, d.before a0 Z = true) (ws : List Jvm.Cond) (a1 : Addr) (cs : List Int32) (va w0 w1 w2 c0 c1 c2 : Addr) (kA : ClassId) (h0 : Heap) (n0 : Nat) (Z0 : n0 ≤ h0.size) (S1 : StrA Z h0 a1 cs) (hcs : cs = ([97, 117, 99, 116, 105, 111, 110] : List Int32) ∨ cs = ([114, 101, 99, 111, 110, 102, 105, 103, 117, 114, 97, 116, 105, 111, 110] : List Int32) ∨ cs = ([97, 115, 115, 105, 103, 110, 109, 101, 110, 116] : List Int32)) (B : Bg Z h0 va w0 w1 w2 c0 c1 c2 kA) :
    MetFree l (⟨"com/example/driftmark/driftmark/TradeKind", "parse", "(Ljava/lang/String;)Lcom/example/driftmark/driftmark/TradeKind;"⟩ : MethodName) (head1 (Jvm.Cond.code (⟨"com/example/driftmark/driftmark/TradeKind", "parse", "(Ljava/lang/String;)Lcom/example/driftmark/driftmark/TradeKind;"⟩ : MethodName) prog_19_method_4_code 5 (some (.object "com/example/driftmark/driftmark/TradeKind")) :: ws) ({ frames := 2, cells := 1, slots := 3, locals := 28 } : Room)) (fun a U => a = #[(.ref a1)] ∧ Z.Warmed39 U.vm ∧ U.heap = h0) (fun _ _ _ _ _ => True) (fun _ U o U' => ∃ v L, o = .returned v ∧ Q_parse Z a1 cs va w0 w1 w2 c0 c1 c2 kA h0 n0 v U'.heap L ∧ FrameEnd U o U' L ({ frames := 2, cells := 1, slots := 3, locals := 28 } : Room).cells ({ frames := 2, cells := 1, slots := 3, locals := 28 } : Room).slots) := by
  refine MetFree.of_bodySF (plainFor_of_name pn_parse) hisR ?_
  intro p e s m args below meth c s₁ Bd hml0 hP hK
  obtain ⟨rfl, hZ, hh⟩ := hP
  have hx := Bd.exec
  have hby := Bd.bytes
  have hml : c.maxLocals = 5 := hml0
  have hown : s.vm.findClass "com/example/driftmark/driftmark/TradeKind" = some m.cls := findClass_of_methodNamed Bd.named
  have hnm := (name_of_methodNamed Bd.named Bd.method).1
  have X0 : Stand p l e ({ frames := 2, cells := 1, slots := 3, locals := 28 } : Room) s m #[(.ref a1)] below meth c s₁ [] 0 0 := Stand.of_body Bd
  have e0 : s₁.heap = h0 := by rw [← hh, Bd.state]; rfl
  have N0 := Fr.nil n0
  show Rch p e below s₁ (entryFrame m #[(.ref a1)] 5) (fun U o => ∃ v L, o = .returned v ∧ Q_parse Z a1 cs va w0 w1 w2 c0 c1 c2 kA h0 n0 v U.heap L ∧ FrameEnd s o U L ({ frames := 2, cells := 1, slots := 3, locals := 28 } : Room).cells ({ frames := 2, cells := 1, slots := 3, locals := 28 } : Room).slots)
  refine Rch.cast (ef_parse m a1) ?_
  show Rch p e below s₁ (mkF m 0 #[.val (.ref a1), .unset, .unset, .unset, .unset] []) _
  obtain ⟨_, _, ⟨T5, L5, k5, n5⟩, -, X5, ⟨Lc5, hQ5, l5, y5, z5⟩, st5⟩ := Jvm.LawKit.callS X0 hx (y := (⟨"com/example/driftmark/driftmark/TradeKind", "values", "()[Lcom/example/driftmark/driftmark/TradeKind;"⟩ : MethodName)) hown (mvT hZ (wq hw 37 rfl)) (mvT hZ (wq hw 38 rfl)) (mvT hZ (wq hw 3 rfl)) (mvT hZ (wq hw 39 rfl)) (by decide) (backOf (W := 0) (rm_values l Z a0 hw [] va w0 w1 w2 c0 c1 c2 kA h0 n0 Z0 B) hZ (wq hw 39 rfl) (wq hw 3 rfl) (by decide) (by decide)) (g := (mkF m 0 #[.val (.ref a1), .unset, .unset, .unset, .unset] [])) rfl (by rw [hml]; rfl) (argsL := []) (rest := []) (lenOf pd_0 rfl) rfl (by show 2 * 0 + _ ≤ _; exact Nat.le_of_eq rfl) (hb hby dp_0) (fun _ _ => ⟨rfl, e0, (by decide : 0 + 1 ≤ _), (by decide : 0 + 3 ≤ _)⟩)
  dsimp only [Pt.U, Pt.locs, Pt.cells, Pt.slots] at X5 l5 y5 z5 st5 hQ5
  subst l5 y5 z5
  obtain ⟨a5, rfl, Nq5, E5, M5⟩ := hQ5
  have N5 := Fr.app N0 Nq5
  have Ex6 : Ext h0 T5.heap := E5
  refine Rch.st st5 ?_
  show Rch p e below T5 (mkF m 3 #[.val (.ref a1), .unset, .unset, .unset, .unset] [(.ref a5)]) _
  refine Rch.st (fun _ k => XS.astoreN X5.here hx rfl (hb hby dp_3) rfl rfl (l' := #[.val (.ref a1), .val (.ref a5), .unset, .unset, .unset]) rfl k) ?_
  show Rch p e below T5 (mkF m 4 #[.val (.ref a1), .val (.ref a5), .unset, .unset, .unset] []) _
  refine Rch.st (fun _ k => XS.aloadN X5.here hx rfl (hb hby dp_4) rfl rfl k) ?_
  show Rch p e below T5 (mkF m 5 #[.val (.ref a1), .val (.ref a5), .unset, .unset, .unset] [(.ref a5)]) _
  refine Rch.st (alenA X5 hx hZ rfl M5 (g := (mkF m 5 #[.val (.ref a1), .val (.ref a5), .unset, .unset, .unset] [(.ref a5)])) rfl rfl (hb hby dp_5)) ?_
  show Rch p e below T5 (mkF m 6 #[.val (.ref a1), .val (.ref a5), .unset, .unset, .unset] [(.int (3 : Int32))]) _
  refine Rch.st (fun _ k => XS.istoreN X5.here hx rfl (hb hby dp_6) rfl (l' := #[.val (.ref a1), .val (.ref a5), .val (.int (3 : Int32)), .unset, .unset]) rfl k) ?_
  show Rch p e below T5 (mkF m 7 #[.val (.ref a1), .val (.ref a5), .val (.int (3 : Int32)), .unset, .unset] []) _
  refine Rch.st (fun _ k => XS.iconst X5.here hx rfl (hb hby dp_7)  k) ?_
  show Rch p e below T5 (mkF m 8 #[.val (.ref a1), .val (.ref a5), .val (.int (3 : Int32)), .unset, .unset] [(.int (0 : Int32))]) _
  refine Rch.st (fun _ k => XS.istoreN X5.here hx rfl (hb hby dp_8) rfl (l' := #[.val (.ref a1), .val (.ref a5), .val (.int (3 : Int32)), .val (.int (0 : Int32)), .unset]) rfl k) ?_
  show Rch p e below T5 (mkF m 9 #[.val (.ref a1), .val (.ref a5), .val (.int (3 : Int32)), .val (.int (0 : Int32)), .unset] []) _
  refine Rch.st (fun _ k => XS.iloadN X5.here hx rfl (hb hby dp_9) rfl k) ?_
  show Rch p e below T5 (mkF m 10 #[.val (.ref a1), .val (.ref a5), .val (.int (3 : Int32)), .val (.int (0 : Int32)), .unset] [(.int (0 : Int32))]) _
  refine Rch.st (fun _ k => XS.iloadN X5.here hx rfl (hb hby dp_10) rfl k) ?_
  show Rch p e below T5 (mkF m 11 #[.val (.ref a1), .val (.ref a5), .val (.int (3 : Int32)), .val (.int (0 : Int32)), .unset] [(.int (3 : Int32)), (.int (0 : Int32))]) _
  refine Rch.st (fun _ k => XS.icmpNo X5.here hx rfl (hb hby dp_11) rfl (by decide : if_icmp.holds .ge (0 : Int32) (3 : Int32) = false) k) ?_
  show Rch p e below T5 (mkF m 14 #[.val (.ref a1), .val (.ref a5), .val (.int (3 : Int32)), .val (.int (0 : Int32)), .unset] []) _
  refine Rch.st (fun _ k => XS.aloadN X5.here hx rfl (hb hby dp_14) rfl rfl k) ?_
  show Rch p e below T5 (mkF m 15 #[.val (.ref a1), .val (.ref a5), .val (.int (3 : Int32)), .val (.int (0 : Int32)), .unset] [(.ref a5)]) _
  refine Rch.st (fun _ k => XS.iloadN X5.here hx rfl (hb hby dp_15) rfl k) ?_
  show Rch p e below T5 (mkF m 16 #[.val (.ref a1), .val (.ref a5), .val (.int (3 : Int32)), .val (.int (0 : Int32)), .unset] [(.int (0 : Int32)), (.ref a5)]) _
  refine Rch.st (aalA X5 hx hZ rfl M5 rfl (j := (0 : Int32)) ⟨by decide, by decide⟩ (v := (.ref w0)) rfl (g := (mkF m 16 #[.val (.ref a1), .val (.ref a5), .val (.int (3 : Int32)), .val (.int (0 : Int32)), .unset] [(.int (0 : Int32)), (.ref a5)])) rfl rfl (hb hby dp_16)) ?_
  show Rch p e below T5 (mkF m 17 #[.val (.ref a1), .val (.ref a5), .val (.int (3 : Int32)), .val (.int (0 : Int32)), .unset] [(.ref w0)]) _
  refine Rch.st (fun _ k => XS.astore X5.here hx rfl (hb hby dp_17) rfl rfl (l' := #[.val (.ref a1), .val (.ref a5), .val (.int (3 : Int32)), .val (.int (0 : Int32)), .val (.ref w0)]) rfl k) ?_
  show Rch p e below T5 (mkF m 19 #[.val (.ref a1), .val (.ref a5), .val (.int (3 : Int32)), .val (.int (0 : Int32)), .val (.ref w0)] []) _
  refine Rch.st (fun _ k => XS.aload X5.here hx rfl (hb hby dp_19) rfl rfl k) ?_
  show Rch p e below T5 (mkF m 21 #[.val (.ref a1), .val (.ref a5), .val (.int (3 : Int32)), .val (.int (0 : Int32)), .val (.ref w0)] [(.ref w0)]) _
  obtain ⟨T7, X7, e7, st7⟩ := getF X5 hx hZ hown (host := "") (Or.inl (wq hw 54 rfl)) Via.refl rfl (B.ext Ex6).2.2.2.2.2.2.1 (g := (mkF m 21 #[.val (.ref a1), .val (.ref a5), .val (.int (3 : Int32)), .val (.int (0 : Int32)), .val (.ref w0)] [(.ref w0)])) rfl rfl (hb hby dp_21)
  refine Rch.st st7 ?_
  show Rch p e below T7 (mkF m 24 #[.val (.ref a1), .val (.ref a5), .val (.int (3 : Int32)), .val (.int (0 : Int32)), .val (.ref w0)] [(.ref c0)]) _
  refine Rch.st (fun _ k => XS.aloadN X7.here hx rfl (hb hby dp_24) rfl rfl k) ?_
  show Rch p e below T7 (mkF m 25 #[.val (.ref a1), .val (.ref a5), .val (.int (3 : Int32)), .val (.int (0 : Int32)), .val (.ref w0)] [(.ref a1), (.ref c0)]) _
  obtain ⟨cq8, kq8, q8a, q8b, q8c⟩ := isOf hZ e7 ((B.ext Ex6).2.2.2.2.2.2.2.2.2.1).exa
  obtain ⟨_, _, ⟨T8, L8, k8, n8⟩, -, X8, ⟨Lc8, hQ8, l8, y8, z8⟩, st8⟩ := X7.virtualBack hx (y := (⟨"java/lang/String", "equals", "(Ljava/lang/Object;)Z"⟩ : MethodName)) (z := (⟨"java/lang/String", "equals", "(Ljava/lang/Object;)Z"⟩ : MethodName)) hown (mvT hZ (wq hw 56 rfl)) (mvT hZ (wq hw 57 rfl)) (notFace_of_selects (args := #[]) (mvT hZ (wq hw 59 rfl))) (mvT hZ (wq hw 59 rfl)) (mvT hZ (wq hw 58 rfl)) (by decide) (eqS (W := 0) hZ hw ((B.ext Ex6).2.2.2.2.2.2.2.2.2.1) (S1.ext Ex6) ((B.ext Ex6).2.2.2.2.2.2.2.2.2.2.2.2.1) (by decide) (by rcases hcs with q | q | q <;> subst q <;> decide) (by decide) (by decide)) q8a q8c (g := (mkF m 25 #[.val (.ref a1), .val (.ref a5), .val (.int (3 : Int32)), .val (.int (0 : Int32)), .val (.ref w0)] [(.ref a1), (.ref c0)])) rfl (by rw [hml]; rfl) (Steps.refl _) (argsL := [(.ref a1)]) (rest := []) (lenOf pd_1 rfl) rfl (by show 2 * 0 + _ ≤ _; exact Nat.le_of_eq rfl) (hb hby dp_25) (fun _ _ => ⟨rfl, e7, (by decide : 1 + 0 ≤ _), (by decide : 3 + 0 ≤ _)⟩)
  dsimp only [Pt.U, Pt.locs, Pt.cells, Pt.slots] at X8 l8 y8 z8 st8 hQ8
  subst l8 y8 z8
  obtain ⟨hc8, rfl, e8⟩ := hQ8
  have N8 := Fr.app N5 (Fr.nil n0)
  rcases hc8 with ⟨rfl, hq8⟩ | ⟨rfl, hq8⟩
  · skip
    refine Rch.go st8 ?_
    show Rch p e below T8 (mkF m 28 #[.val (.ref a1), .val (.ref a5), .val (.int (3 : Int32)), .val (.int (0 : Int32)), .val (.ref w0)] [(.int (1 : Int32))]) _
    refine Rch.st (fun _ k => XS.ifNo X8.here hx rfl (hb hby dp_28) rfl (by decide : ifCond.holds .eq (1 : Int32) = false) k) ?_
    show Rch p e below T8 (mkF m 31 #[.val (.ref a1), .val (.ref a5), .val (.int (3 : Int32)), .val (.int (0 : Int32)), .val (.ref w0)] []) _
    refine Rch.st (fun _ k => XS.aload X8.here hx rfl (hb hby dp_31) rfl rfl k) ?_
    show Rch p e below T8 (mkF m 33 #[.val (.ref a1), .val (.ref a5), .val (.int (3 : Int32)), .val (.int (0 : Int32)), .val (.ref w0)] [(.ref w0)]) _
    exact Rch.fin (Q := Q_parse Z a1 cs va w0 w1 w2 c0 c1 c2 kA h0 n0) X8 (v := some (.ref w0)) (fun h => by rw [Bd.returns] at h; cases h) (BodyLoose.notSynchronized Bd) (fun fs hr => retR X8 hx Bd.returns rfl rfl (hb hby dp_33) hr) (by rw [e8]; exact ⟨w0, rfl, N8, Ex6, fun _ => rfl, fun h => absurd (hq8.trans h) (by decide), fun h => absurd (hq8.trans h) (by decide)⟩) (by decide) (by decide)
  · skip
    refine Rch.go st8 ?_
    show Rch p e below T8 (mkF m 28 #[.val (.ref a1), .val (.ref a5), .val (.int (3 : Int32)), .val (.int (0 : Int32)), .val (.ref w0)] [(.int (0 : Int32))]) _
    refine Rch.st (fun _ k => XS.ifYes X8.here hx rfl (pc0 := 28) (pc' := 34) rfl (hb hby dp_28) rfl (by decide : ifCond.holds .eq (0 : Int32) = true) (by decide) (by decide) k) ?_
    show Rch p e below T8 (mkF m 34 #[.val (.ref a1), .val (.ref a5), .val (.int (3 : Int32)), .val (.int (0 : Int32)), .val (.ref w0)] []) _
    refine Rch.st (fun _ k => XS.iinc X8.here hx rfl (hb hby dp_34) rfl (l' := #[.val (.ref a1), .val (.ref a5), .val (.int (3 : Int32)), .val (.int (1 : Int32)), .val (.ref w0)]) rfl k) ?_
    show Rch p e below T8 (mkF m 37 #[.val (.ref a1), .val (.ref a5), .val (.int (3 : Int32)), .val (.int (1 : Int32)), .val (.ref w0)] []) _
    refine Rch.st (fun _ k => XS.goto X8.here hx rfl (pc0 := 37) (pc' := 9) rfl (hb hby dp_37) (by decide) (by decide) k) ?_
    show Rch p e below T8 (mkF m 9 #[.val (.ref a1), .val (.ref a5), .val (.int (3 : Int32)), .val (.int (1 : Int32)), .val (.ref w0)] []) _
    refine Rch.st (fun _ k => XS.iloadN X8.here hx rfl (hb hby dp_9) rfl k) ?_
    show Rch p e below T8 (mkF m 10 #[.val (.ref a1), .val (.ref a5), .val (.int (3 : Int32)), .val (.int (1 : Int32)), .val (.ref w0)] [(.int (1 : Int32))]) _
    refine Rch.st (fun _ k => XS.iloadN X8.here hx rfl (hb hby dp_10) rfl k) ?_
    show Rch p e below T8 (mkF m 11 #[.val (.ref a1), .val (.ref a5), .val (.int (3 : Int32)), .val (.int (1 : Int32)), .val (.ref w0)] [(.int (3 : Int32)), (.int (1 : Int32))]) _
    refine Rch.st (fun _ k => XS.icmpNo X8.here hx rfl (hb hby dp_11) rfl (by decide : if_icmp.holds .ge (1 : Int32) (3 : Int32) = false) k) ?_
    show Rch p e below T8 (mkF m 14 #[.val (.ref a1), .val (.ref a5), .val (.int (3 : Int32)), .val (.int (1 : Int32)), .val (.ref w0)] []) _
    refine Rch.st (fun _ k => XS.aloadN X8.here hx rfl (hb hby dp_14) rfl rfl k) ?_
    show Rch p e below T8 (mkF m 15 #[.val (.ref a1), .val (.ref a5), .val (.int (3 : Int32)), .val (.int (1 : Int32)), .val (.ref w0)] [(.ref a5)]) _
    refine Rch.st (fun _ k => XS.iloadN X8.here hx rfl (hb hby dp_15) rfl k) ?_
    show Rch p e below T8 (mkF m 16 #[.val (.ref a1), .val (.ref a5), .val (.int (3 : Int32)), .val (.int (1 : Int32)), .val (.ref w0)] [(.int (1 : Int32)), (.ref a5)]) _
    refine Rch.st (aalA X8 hx hZ e8 M5 rfl (j := (1 : Int32)) ⟨by decide, by decide⟩ (v := (.ref w1)) rfl (g := (mkF m 16 #[.val (.ref a1), .val (.ref a5), .val (.int (3 : Int32)), .val (.int (1 : Int32)), .val (.ref w0)] [(.int (1 : Int32)), (.ref a5)])) rfl rfl (hb hby dp_16)) ?_
    show Rch p e below T8 (mkF m 17 #[.val (.ref a1), .val (.ref a5), .val (.int (3 : Int32)), .val (.int (1 : Int32)), .val (.ref w0)] [(.ref w1)]) _
    refine Rch.st (fun _ k => XS.astore X8.here hx rfl (hb hby dp_17) rfl rfl (l' := #[.val (.ref a1), .val (.ref a5), .val (.int (3 : Int32)), .val (.int (1 : Int32)), .val (.ref w1)]) rfl k) ?_
    show Rch p e below T8 (mkF m 19 #[.val (.ref a1), .val (.ref a5), .val (.int (3 : Int32)), .val (.int (1 : Int32)), .val (.ref w1)] []) _
    refine Rch.st (fun _ k => XS.aload X8.here hx rfl (hb hby dp_19) rfl rfl k) ?_
    show Rch p e below T8 (mkF m 21 #[.val (.ref a1), .val (.ref a5), .val (.int (3 : Int32)), .val (.int (1 : Int32)), .val (.ref w1)] [(.ref w1)]) _
    obtain ⟨T9, X9, e9, st9⟩ := getF X8 hx hZ hown (host := "") (Or.inl (wq hw 54 rfl)) Via.refl e8 (B.ext Ex6).2.2.2.2.2.2.2.1 (g := (mkF m 21 #[.val (.ref a1), .val (.ref a5), .val (.int (3 : Int32)), .val (.int (1 : Int32)), .val (.ref w1)] [(.ref w1)])) rfl rfl (hb hby dp_21)
    refine Rch.st st9 ?_
    show Rch p e below T9 (mkF m 24 #[.val (.ref a1), .val (.ref a5), .val (.int (3 : Int32)), .val (.int (1 : Int32)), .val (.ref w1)] [(.ref c1)]) _
    refine Rch.st (fun _ k => XS.aloadN X9.here hx rfl (hb hby dp_24) rfl rfl k) ?_
    show Rch p e below T9 (mkF m 25 #[.val (.ref a1), .val (.ref a5), .val (.int (3 : Int32)), .val (.int (1 : Int32)), .val (.ref w1)] [(.ref a1), (.ref c1)]) _
    obtain ⟨cq10, kq10, q10a, q10b, q10c⟩ := isOf hZ e9 ((B.ext Ex6).2.2.2.2.2.2.2.2.2.2.1).exa
    obtain ⟨_, _, ⟨T10, L10, k10, n10⟩, -, X10, ⟨Lc10, hQ10, l10, y10, z10⟩, st10⟩ := X9.virtualBack hx (y := (⟨"java/lang/String", "equals", "(Ljava/lang/Object;)Z"⟩ : MethodName)) (z := (⟨"java/lang/String", "equals", "(Ljava/lang/Object;)Z"⟩ : MethodName)) hown (mvT hZ (wq hw 56 rfl)) (mvT hZ (wq hw 57 rfl)) (notFace_of_selects (args := #[]) (mvT hZ (wq hw 59 rfl))) (mvT hZ (wq hw 59 rfl)) (mvT hZ (wq hw 58 rfl)) (by decide) (eqS (W := 0) hZ hw ((B.ext Ex6).2.2.2.2.2.2.2.2.2.2.1) (S1.ext Ex6) ((B.ext Ex6).2.2.2.2.2.2.2.2.2.2.2.2.1) (by decide) (by rcases hcs with q | q | q <;> subst q <;> decide) (by decide) (by decide)) q10a q10c (g := (mkF m 25 #[.val (.ref a1), .val (.ref a5), .val (.int (3 : Int32)), .val (.int (1 : Int32)), .val (.ref w1)] [(.ref a1), (.ref c1)])) rfl (by rw [hml]; rfl) (Steps.refl _) (argsL := [(.ref a1)]) (rest := []) (lenOf pd_1 rfl) rfl (by show 2 * 0 + _ ≤ _; exact Nat.le_of_eq rfl) (hb hby dp_25) (fun _ _ => ⟨rfl, e9, (by decide : 1 + 0 ≤ _), (by decide : 3 + 0 ≤ _)⟩)
    dsimp only [Pt.U, Pt.locs, Pt.cells, Pt.slots] at X10 l10 y10 z10 st10 hQ10
    subst l10 y10 z10
    obtain ⟨hc10, rfl, e10⟩ := hQ10
    have N10 := Fr.app N8 (Fr.nil n0)
    rcases hc10 with ⟨rfl, hq10⟩ | ⟨rfl, hq10⟩
    · skip
      refine Rch.go st10 ?_
      show Rch p e below T10 (mkF m 28 #[.val (.ref a1), .val (.ref a5), .val (.int (3 : Int32)), .val (.int (1 : Int32)), .val (.ref w1)] [(.int (1 : Int32))]) _
      refine Rch.st (fun _ k => XS.ifNo X10.here hx rfl (hb hby dp_28) rfl (by decide : ifCond.holds .eq (1 : Int32) = false) k) ?_
      show Rch p e below T10 (mkF m 31 #[.val (.ref a1), .val (.ref a5), .val (.int (3 : Int32)), .val (.int (1 : Int32)), .val (.ref w1)] []) _
      refine Rch.st (fun _ k => XS.aload X10.here hx rfl (hb hby dp_31) rfl rfl k) ?_
      show Rch p e below T10 (mkF m 33 #[.val (.ref a1), .val (.ref a5), .val (.int (3 : Int32)), .val (.int (1 : Int32)), .val (.ref w1)] [(.ref w1)]) _
      exact Rch.fin (Q := Q_parse Z a1 cs va w0 w1 w2 c0 c1 c2 kA h0 n0) X10 (v := some (.ref w1)) (fun h => by rw [Bd.returns] at h; cases h) (BodyLoose.notSynchronized Bd) (fun fs hr => retR X10 hx Bd.returns rfl rfl (hb hby dp_33) hr) (by rw [e10]; exact ⟨w1, rfl, N10, Ex6, fun h => absurd (hq10.trans h) (by decide), fun _ => rfl, fun h => absurd (hq10.trans h) (by decide)⟩) (by decide) (by decide)
    · skip
      refine Rch.go st10 ?_
      show Rch p e below T10 (mkF m 28 #[.val (.ref a1), .val (.ref a5), .val (.int (3 : Int32)), .val (.int (1 : Int32)), .val (.ref w1)] [(.int (0 : Int32))]) _
      refine Rch.st (fun _ k => XS.ifYes X10.here hx rfl (pc0 := 28) (pc' := 34) rfl (hb hby dp_28) rfl (by decide : ifCond.holds .eq (0 : Int32) = true) (by decide) (by decide) k) ?_
      show Rch p e below T10 (mkF m 34 #[.val (.ref a1), .val (.ref a5), .val (.int (3 : Int32)), .val (.int (1 : Int32)), .val (.ref w1)] []) _
      refine Rch.st (fun _ k => XS.iinc X10.here hx rfl (hb hby dp_34) rfl (l' := #[.val (.ref a1), .val (.ref a5), .val (.int (3 : Int32)), .val (.int (2 : Int32)), .val (.ref w1)]) rfl k) ?_
      show Rch p e below T10 (mkF m 37 #[.val (.ref a1), .val (.ref a5), .val (.int (3 : Int32)), .val (.int (2 : Int32)), .val (.ref w1)] []) _
      refine Rch.st (fun _ k => XS.goto X10.here hx rfl (pc0 := 37) (pc' := 9) rfl (hb hby dp_37) (by decide) (by decide) k) ?_
      show Rch p e below T10 (mkF m 9 #[.val (.ref a1), .val (.ref a5), .val (.int (3 : Int32)), .val (.int (2 : Int32)), .val (.ref w1)] []) _
      refine Rch.st (fun _ k => XS.iloadN X10.here hx rfl (hb hby dp_9) rfl k) ?_
      show Rch p e below T10 (mkF m 10 #[.val (.ref a1), .val (.ref a5), .val (.int (3 : Int32)), .val (.int (2 : Int32)), .val (.ref w1)] [(.int (2 : Int32))]) _
      refine Rch.st (fun _ k => XS.iloadN X10.here hx rfl (hb hby dp_10) rfl k) ?_
      show Rch p e below T10 (mkF m 11 #[.val (.ref a1), .val (.ref a5), .val (.int (3 : Int32)), .val (.int (2 : Int32)), .val (.ref w1)] [(.int (3 : Int32)), (.int (2 : Int32))]) _
      refine Rch.st (fun _ k => XS.icmpNo X10.here hx rfl (hb hby dp_11) rfl (by decide : if_icmp.holds .ge (2 : Int32) (3 : Int32) = false) k) ?_
      show Rch p e below T10 (mkF m 14 #[.val (.ref a1), .val (.ref a5), .val (.int (3 : Int32)), .val (.int (2 : Int32)), .val (.ref w1)] []) _
      refine Rch.st (fun _ k => XS.aloadN X10.here hx rfl (hb hby dp_14) rfl rfl k) ?_
      show Rch p e below T10 (mkF m 15 #[.val (.ref a1), .val (.ref a5), .val (.int (3 : Int32)), .val (.int (2 : Int32)), .val (.ref w1)] [(.ref a5)]) _
      refine Rch.st (fun _ k => XS.iloadN X10.here hx rfl (hb hby dp_15) rfl k) ?_
      show Rch p e below T10 (mkF m 16 #[.val (.ref a1), .val (.ref a5), .val (.int (3 : Int32)), .val (.int (2 : Int32)), .val (.ref w1)] [(.int (2 : Int32)), (.ref a5)]) _
      refine Rch.st (aalA X10 hx hZ e10 M5 rfl (j := (2 : Int32)) ⟨by decide, by decide⟩ (v := (.ref w2)) rfl (g := (mkF m 16 #[.val (.ref a1), .val (.ref a5), .val (.int (3 : Int32)), .val (.int (2 : Int32)), .val (.ref w1)] [(.int (2 : Int32)), (.ref a5)])) rfl rfl (hb hby dp_16)) ?_
      show Rch p e below T10 (mkF m 17 #[.val (.ref a1), .val (.ref a5), .val (.int (3 : Int32)), .val (.int (2 : Int32)), .val (.ref w1)] [(.ref w2)]) _
      refine Rch.st (fun _ k => XS.astore X10.here hx rfl (hb hby dp_17) rfl rfl (l' := #[.val (.ref a1), .val (.ref a5), .val (.int (3 : Int32)), .val (.int (2 : Int32)), .val (.ref w2)]) rfl k) ?_
      show Rch p e below T10 (mkF m 19 #[.val (.ref a1), .val (.ref a5), .val (.int (3 : Int32)), .val (.int (2 : Int32)), .val (.ref w2)] []) _
      refine Rch.st (fun _ k => XS.aload X10.here hx rfl (hb hby dp_19) rfl rfl k) ?_
      show Rch p e below T10 (mkF m 21 #[.val (.ref a1), .val (.ref a5), .val (.int (3 : Int32)), .val (.int (2 : Int32)), .val (.ref w2)] [(.ref w2)]) _
      obtain ⟨T11, X11, e11, st11⟩ := getF X10 hx hZ hown (host := "") (Or.inl (wq hw 54 rfl)) Via.refl e10 (B.ext Ex6).2.2.2.2.2.2.2.2.1 (g := (mkF m 21 #[.val (.ref a1), .val (.ref a5), .val (.int (3 : Int32)), .val (.int (2 : Int32)), .val (.ref w2)] [(.ref w2)])) rfl rfl (hb hby dp_21)
      refine Rch.st st11 ?_
      show Rch p e below T11 (mkF m 24 #[.val (.ref a1), .val (.ref a5), .val (.int (3 : Int32)), .val (.int (2 : Int32)), .val (.ref w2)] [(.ref c2)]) _
      refine Rch.st (fun _ k => XS.aloadN X11.here hx rfl (hb hby dp_24) rfl rfl k) ?_
      show Rch p e below T11 (mkF m 25 #[.val (.ref a1), .val (.ref a5), .val (.int (3 : Int32)), .val (.int (2 : Int32)), .val (.ref w2)] [(.ref a1), (.ref c2)]) _
      obtain ⟨cq12, kq12, q12a, q12b, q12c⟩ := isOf hZ e11 ((B.ext Ex6).2.2.2.2.2.2.2.2.2.2.2.1).exa
      obtain ⟨_, _, ⟨T12, L12, k12, n12⟩, -, X12, ⟨Lc12, hQ12, l12, y12, z12⟩, st12⟩ := X11.virtualBack hx (y := (⟨"java/lang/String", "equals", "(Ljava/lang/Object;)Z"⟩ : MethodName)) (z := (⟨"java/lang/String", "equals", "(Ljava/lang/Object;)Z"⟩ : MethodName)) hown (mvT hZ (wq hw 56 rfl)) (mvT hZ (wq hw 57 rfl)) (notFace_of_selects (args := #[]) (mvT hZ (wq hw 59 rfl))) (mvT hZ (wq hw 59 rfl)) (mvT hZ (wq hw 58 rfl)) (by decide) (eqS (W := 0) hZ hw ((B.ext Ex6).2.2.2.2.2.2.2.2.2.2.2.1) (S1.ext Ex6) ((B.ext Ex6).2.2.2.2.2.2.2.2.2.2.2.2.1) (by decide) (by rcases hcs with q | q | q <;> subst q <;> decide) (by decide) (by decide)) q12a q12c (g := (mkF m 25 #[.val (.ref a1), .val (.ref a5), .val (.int (3 : Int32)), .val (.int (2 : Int32)), .val (.ref w2)] [(.ref a1), (.ref c2)])) rfl (by rw [hml]; rfl) (Steps.refl _) (argsL := [(.ref a1)]) (rest := []) (lenOf pd_1 rfl) rfl (by show 2 * 0 + _ ≤ _; exact Nat.le_of_eq rfl) (hb hby dp_25) (fun _ _ => ⟨rfl, e11, (by decide : 1 + 0 ≤ _), (by decide : 3 + 0 ≤ _)⟩)
      dsimp only [Pt.U, Pt.locs, Pt.cells, Pt.slots] at X12 l12 y12 z12 st12 hQ12
      subst l12 y12 z12
      obtain ⟨hc12, rfl, e12⟩ := hQ12
      have N12 := Fr.app N10 (Fr.nil n0)
      rcases hc12 with ⟨rfl, hq12⟩ | ⟨rfl, hq12⟩
      · skip
        refine Rch.go st12 ?_
        show Rch p e below T12 (mkF m 28 #[.val (.ref a1), .val (.ref a5), .val (.int (3 : Int32)), .val (.int (2 : Int32)), .val (.ref w2)] [(.int (1 : Int32))]) _
        refine Rch.st (fun _ k => XS.ifNo X12.here hx rfl (hb hby dp_28) rfl (by decide : ifCond.holds .eq (1 : Int32) = false) k) ?_
        show Rch p e below T12 (mkF m 31 #[.val (.ref a1), .val (.ref a5), .val (.int (3 : Int32)), .val (.int (2 : Int32)), .val (.ref w2)] []) _
        refine Rch.st (fun _ k => XS.aload X12.here hx rfl (hb hby dp_31) rfl rfl k) ?_
        show Rch p e below T12 (mkF m 33 #[.val (.ref a1), .val (.ref a5), .val (.int (3 : Int32)), .val (.int (2 : Int32)), .val (.ref w2)] [(.ref w2)]) _
        exact Rch.fin (Q := Q_parse Z a1 cs va w0 w1 w2 c0 c1 c2 kA h0 n0) X12 (v := some (.ref w2)) (fun h => by rw [Bd.returns] at h; cases h) (BodyLoose.notSynchronized Bd) (fun fs hr => retR X12 hx Bd.returns rfl rfl (hb hby dp_33) hr) (by rw [e12]; exact ⟨w2, rfl, N12, Ex6, fun h => absurd (hq12.trans h) (by decide), fun h => absurd (hq12.trans h) (by decide), fun _ => rfl⟩) (by decide) (by decide)
      · skip
        refine Rch.go st12 ?_
        show Rch p e below T12 (mkF m 28 #[.val (.ref a1), .val (.ref a5), .val (.int (3 : Int32)), .val (.int (2 : Int32)), .val (.ref w2)] [(.int (0 : Int32))]) _
        refine Rch.st (fun _ k => XS.ifYes X12.here hx rfl (pc0 := 28) (pc' := 34) rfl (hb hby dp_28) rfl (by decide : ifCond.holds .eq (0 : Int32) = true) (by decide) (by decide) k) ?_
        show Rch p e below T12 (mkF m 34 #[.val (.ref a1), .val (.ref a5), .val (.int (3 : Int32)), .val (.int (2 : Int32)), .val (.ref w2)] []) _
        exfalso
        rcases hcs with q | q | q
        · exact hq8 q.symm
        · exact hq10 q.symm
        · exact hq12 q.symm
theorem acN (v : Value) : XT.acmp .ne v v = false := decide_eq_false (fun q => q rfl)
theorem dc_0 : decode prog_19_method_6_code 0 = .ok (.aload_n 0, 1) := by decide +kernel
theorem dc_1 : decode prog_19_method_6_code 1 = .ok (.getfield 32, 3) := by decide +kernel
theorem dc_4 : decode prog_19_method_6_code 4 = .ok (.areturn, 1) := by decide +kernel
theorem pn_code : plainName "com/example/driftmark/driftmark/TradeKind" = true := by first | (simp [plainName, overriddenIn]; done) | decide +kernel
theorem ef_code (m : MethodId) (x0 : Addr) : entryFrame m #[(.ref x0)] 1 = mkF m 0 #[.val (.ref x0)] [] := by first | (simp [entryFrame, mkF, argsToLocals, Value.category]; done) | rfl
def Q_code (Z : State) (wa ca : Addr) (h0 : Heap) (n0 : Nat) (v : Option Value) (h : Heap) (L : List Loc) : Prop := v = some (.ref ca) ∧ Fr n0 L ∧ h = h0
set_option maxRecDepth 65536 in
set_option maxHeartbeats 40000000 in
theorem rm_code (l : Launch) (Z : State) (a0 : Array Value) (hw : ∀ d ∈ tables_1, d.before a0 Z = true) (ws : List Jvm.Cond) (wa ca : Addr) (h0 : Heap) (n0 : Nat) (Z0 : n0 ≤ h0.size) (F : Fld Z h0 wa "com/example/driftmark/driftmark/TradeKind" "code" "Ljava/lang/String;" (.ref ca)) :
    MetFree l (⟨"com/example/driftmark/driftmark/TradeKind", "code", "()Ljava/lang/String;"⟩ : MethodName) (head1 (Jvm.Cond.code (⟨"com/example/driftmark/driftmark/TradeKind", "code", "()Ljava/lang/String;"⟩ : MethodName) prog_19_method_6_code 1 (some (.object "java/lang/String")) :: ws) ({ frames := 0, cells := 0, slots := 0, locals := 0 } : Room)) (fun a U => a = #[(.ref wa)] ∧ Z.Warmed39 U.vm ∧ U.heap = h0) (fun _ _ _ _ _ => True) (fun _ U o U' => ∃ v L, o = .returned v ∧ Q_code Z wa ca h0 n0 v U'.heap L ∧ FrameEnd U o U' L ({ frames := 0, cells := 0, slots := 0, locals := 0 } : Room).cells ({ frames := 0, cells := 0, slots := 0, locals := 0 } : Room).slots) := by
  refine MetFree.of_bodySF (plainFor_of_name pn_code) hisR ?_
  intro p e s m args below meth c s₁ Bd hml0 hP hK
  obtain ⟨rfl, hZ, hh⟩ := hP
  have hx := Bd.exec
  have hby := Bd.bytes
  have hml : c.maxLocals = 1 := hml0
  have hown : s.vm.findClass "com/example/driftmark/driftmark/TradeKind" = some m.cls := findClass_of_methodNamed Bd.named
  have hnm := (name_of_methodNamed Bd.named Bd.method).1
  have X0 : Stand p l e ({ frames := 0, cells := 0, slots := 0, locals := 0 } : Room) s m #[(.ref wa)] below meth c s₁ [] 0 0 := Stand.of_body Bd
  have e0 : s₁.heap = h0 := by rw [← hh, Bd.state]; rfl
  have N0 := Fr.nil n0
  show Rch p e below s₁ (entryFrame m #[(.ref wa)] 1) (fun U o => ∃ v L, o = .returned v ∧ Q_code Z wa ca h0 n0 v U.heap L ∧ FrameEnd s o U L ({ frames := 0, cells := 0, slots := 0, locals := 0 } : Room).cells ({ frames := 0, cells := 0, slots := 0, locals := 0 } : Room).slots)
  refine Rch.cast (ef_code m wa) ?_
  show Rch p e below s₁ (mkF m 0 #[.val (.ref wa)] []) _
  refine Rch.st (fun _ k => XS.aloadN X0.here hx rfl (hb hby dc_0) rfl rfl k) ?_
  show Rch p e below s₁ (mkF m 1 #[.val (.ref wa)] [(.ref wa)]) _
  obtain ⟨T13, X13, e13, st13⟩ := getF X0 hx hZ hown (host := "") (Or.inl (wq hw 54 rfl)) Via.refl e0 F (g := (mkF m 1 #[.val (.ref wa)] [(.ref wa)])) rfl rfl (hb hby dc_1)
  refine Rch.st st13 ?_
  show Rch p e below T13 (mkF m 4 #[.val (.ref wa)] [(.ref ca)]) _
  exact Rch.fin (Q := Q_code Z wa ca h0 n0) X13 (v := some (.ref ca)) (fun h => by rw [Bd.returns] at h; cases h) (BodyLoose.notSynchronized Bd) (fun fs hr => retR X13 hx Bd.returns rfl rfl (hb hby dc_4) hr) (by rw [e13]; exact ⟨rfl, N0, rfl⟩) (by decide) (by decide)
theorem pn_law : plainName "com/example/driftmark/driftmark/TradeKindParsePinLaw" = true := by first | (simp [plainName, overriddenIn]; done) | decide +kernel
theorem ef_law (m : MethodId) (x0 : Int32) : entryFrame m #[(.int x0)] maxLocals = mkF m 0 #[.val (.int x0), .unset, .unset, .unset, .unset, .unset, .unset] [] := by first | (simp [entryFrame, mkF, argsToLocals, Value.category, maxLocals]; done) | rfl
def Q_law (Z : State) (p1 : Int32) (va w0 w1 w2 c0 c1 c2 : Addr) (kA : ClassId) (h0 : Heap) (n0 : Nat) (v : Option Value) (h : Heap) (L : List Loc) : Prop := v = some (.int 1) ∧ Fr n0 L
set_option maxRecDepth 65536 in
set_option maxHeartbeats 40000000 in
theorem rm_law (l : Launch) (Z : State) (a0 : Array Value) (hw : ∀ d ∈ tables_1, d.before a0 Z = true) (ws : List Jvm.Cond) (p1 : Int32) (va w0 w1 w2 c0 c1 c2 : Addr) (kA : ClassId) (h0 : Heap) (n0 : Nat) (Z0 : n0 ≤ h0.size) (B : Bg Z h0 va w0 w1 w2 c0 c1 c2 kA) :
    MetFree l x (head1 (Jvm.Cond.code x code maxLocals ret :: ws) room_1) (fun a U => a = #[(.int p1)] ∧ Z.Warmed39 U.vm ∧ U.heap = h0) (fun _ _ _ _ _ => True) (fun _ U o U' => ∃ v L, o = .returned v ∧ Q_law Z p1 va w0 w1 w2 c0 c1 c2 kA h0 n0 v U'.heap L ∧ FrameEnd U o U' L 24 192) := by
  refine MetFree.of_bodySF (plainFor_of_name pn_law) hisR ?_
  intro p e s m args below meth c s₁ Bd hml0 hP hK
  obtain ⟨rfl, hZ, hh⟩ := hP
  have hx := Bd.exec
  have hby := Bd.bytes
  have hml : c.maxLocals = 7 := hml0
  have hown : s.vm.findClass "com/example/driftmark/driftmark/TradeKindParsePinLaw" = some m.cls := findClass_of_methodNamed Bd.named
  have hnm := (name_of_methodNamed Bd.named Bd.method).1
  have X0 : Stand p l e room_1 s m #[(.int p1)] below meth c s₁ [] 0 0 := Stand.of_body Bd
  have e0 : s₁.heap = h0 := by rw [← hh, Bd.state]; rfl
  have N0 := Fr.nil n0
  show Rch p e below s₁ (entryFrame m #[(.int p1)] maxLocals) (fun U o => ∃ v L, o = .returned v ∧ Q_law Z p1 va w0 w1 w2 c0 c1 c2 kA h0 n0 v U.heap L ∧ FrameEnd s o U L 24 192)
  refine Rch.cast (ef_law m p1) ?_
  show Rch p e below s₁ (mkF m 0 #[.val (.int p1), .unset, .unset, .unset, .unset, .unset, .unset] []) _
  refine Rch.st (fun _ k => XS.iloadN X0.here hx rfl (hb hby at_0) rfl k) ?_
  show Rch p e below s₁ (mkF m 1 #[.val (.int p1), .unset, .unset, .unset, .unset, .unset, .unset] [(.int p1)]) _
  refine Rch.st (X0.ldcInt hx hown (mvT hZ (wq hw 0 rfl)) (g := (mkF m 1 #[.val (.int p1), .unset, .unset, .unset, .unset, .unset, .unset] [(.int p1)])) rfl (hb hby at_1)) ?_
  show Rch p e below s₁ (mkF m 3 #[.val (.int p1), .unset, .unset, .unset, .unset, .unset, .unset] [(.int (2147483647 : Int32)), (.int p1)]) _
  refine Rch.st (fun _ k => XS.iand X0.here hx rfl (hb hby at_3) rfl k) ?_
  show Rch p e below s₁ (mkF m 4 #[.val (.int p1), .unset, .unset, .unset, .unset, .unset, .unset] [(.int (p1 &&& (2147483647 : Int32)))]) _
  refine Rch.st (fun _ k => XS.iconst X0.here hx rfl (hb hby at_4)  k) ?_
  show Rch p e below s₁ (mkF m 5 #[.val (.int p1), .unset, .unset, .unset, .unset, .unset, .unset] [(.int (3 : Int32)), (.int (p1 &&& (2147483647 : Int32)))]) _
  refine Rch.st (fun _ k => iremM X0 hx rfl (hb hby at_5) rfl (by decide) k) ?_
  show Rch p e below s₁ (mkF m 6 #[.val (.int p1), .unset, .unset, .unset, .unset, .unset, .unset] [(.int ((p1 &&& (2147483647 : Int32)) % (3 : Int32)))]) _
  generalize hsel : ((p1 &&& (2147483647 : Int32)) % (3 : Int32)) = sel
  show Rch p e below s₁ (mkF m 6 #[.val (.int p1), .unset, .unset, .unset, .unset, .unset, .unset] [(.int sel)]) _
  refine Rch.st (fun _ k => XS.istoreN X0.here hx rfl (hb hby at_6) rfl (l' := #[.val (.int p1), .val (.int sel), .unset, .unset, .unset, .unset, .unset]) rfl k) ?_
  show Rch p e below s₁ (mkF m 7 #[.val (.int p1), .val (.int sel), .unset, .unset, .unset, .unset, .unset] []) _
  refine Rch.st (fun _ k => XS.iloadN X0.here hx rfl (hb hby at_7) rfl k) ?_
  show Rch p e below s₁ (mkF m 8 #[.val (.int p1), .val (.int sel), .unset, .unset, .unset, .unset, .unset] [(.int sel)]) _
  by_cases hs0 : sel = (0 : Int32)
  · skip
    refine Rch.st (fun _ k => XS.ifNo X0.here hx rfl (hb hby at_8) rfl ((if0 _ _).trans (teq hs0).2) k) ?_
    show Rch p e below s₁ (mkF m 11 #[.val (.int p1), .val (.int sel), .unset, .unset, .unset, .unset, .unset] []) _
    refine Rch.st (fun _ k => XS.bipush X0.here hx rfl (hb hby at_11)  k) ?_
    show Rch p e below s₁ (mkF m 13 #[.val (.int p1), .val (.int sel), .unset, .unset, .unset, .unset, .unset] [(.int (7 : Int32))]) _
    obtain ⟨T14, h14, k14, X14, e14, E14, A14, st14⟩ := newP X0 hx hZ (wq hw 1 rfl) e0 (g := (mkF m 13 #[.val (.int p1), .val (.int sel), .unset, .unset, .unset, .unset, .unset] [(.int (7 : Int32))])) rfl (hb hby at_13) rfl (by decide : ¬ ((7 : Int32) < (0 : Int32))) (cap := 7) (by decide : ((7 : Int32)).toNatClampNeg ≤ 7) (by decide) (by decide) (by decide)
    obtain ⟨a14, g14⟩ : ∃ z, z = h0.size := ⟨_, rfl⟩
    rw [← g14] at A14 st14
    have Ex15 : Ext h0 h14 := E14
    have le16 : h0.size ≤ a14 := Nat.le_of_eq g14.symm
    refine Rch.st st14 ?_
    show Rch p e below T14 (mkF m 15 #[.val (.int p1), .val (.int sel), .unset, .unset, .unset, .unset, .unset] [(.ref a14)]) _
    have V14 : Arv Z h14 a14 k14 .char (7 : Int32) [(.int (0 : Int32)), (.int (0 : Int32)), (.int (0 : Int32)), (.int (0 : Int32)), (.int (0 : Int32)), (.int (0 : Int32)), (.int (0 : Int32))] (.int (0 : Int32)) := (Arv.new A14 (by decide : ¬ ((7 : Int32) < (0 : Int32)))).pad (pad_rep [] (.int (0 : Int32)) 7)
    refine Rch.st (fun _ k => XS.dup X14.here hx rfl (hb hby at_15) rfl rfl k) ?_
    show Rch p e below T14 (mkF m 16 #[.val (.int p1), .val (.int sel), .unset, .unset, .unset, .unset, .unset] [(.ref a14), (.ref a14)]) _
    refine Rch.st (fun _ k => XS.iconst X14.here hx rfl (hb hby at_16)  k) ?_
    show Rch p e below T14 (mkF m 17 #[.val (.int p1), .val (.int sel), .unset, .unset, .unset, .unset, .unset] [(.int (0 : Int32)), (.ref a14), (.ref a14)]) _
    refine Rch.st (fun _ k => XS.bipush X14.here hx rfl (hb hby at_17)  k) ?_
    show Rch p e below T14 (mkF m 19 #[.val (.int p1), .val (.int sel), .unset, .unset, .unset, .unset, .unset] [(.int (97 : Int32)), (.int (0 : Int32)), (.ref a14), (.ref a14)]) _
    obtain ⟨T17, h17, L17, sl17, X17, e17, W17, V17, N17, st17⟩ := stCv X14 hx hZ e14 V14 N0 (Nat.le_trans Z0 le16) (j := (0 : Int32)) ⟨by decide, by decide⟩ 0 rfl (Nat.le_of_ble_eq_true rfl) (g := (mkF m 19 #[.val (.int p1), .val (.int sel), .unset, .unset, .unset, .unset, .unset] [(.int (97 : Int32)), (.int (0 : Int32)), (.ref a14), (.ref a14)])) rfl rfl (hb hby at_19)
    have V17' : Arv Z h17 a14 k14 .char (7 : Int32) [(.int (97 : Int32)), (.int (0 : Int32)), (.int (0 : Int32)), (.int (0 : Int32)), (.int (0 : Int32)), (.int (0 : Int32)), (.int (0 : Int32))] (.int (0 : Int32)) := V17
    have Ex18 : Ext h0 h17 := extWr Ex15 W17 le16
    refine Rch.st st17 ?_
    show Rch p e below T17 (mkF m 20 #[.val (.int p1), .val (.int sel), .unset, .unset, .unset, .unset, .unset] [(.ref a14)]) _
    refine Rch.st (fun _ k => XS.dup X17.here hx rfl (hb hby at_20) rfl rfl k) ?_
    show Rch p e below T17 (mkF m 21 #[.val (.int p1), .val (.int sel), .unset, .unset, .unset, .unset, .unset] [(.ref a14), (.ref a14)]) _
    refine Rch.st (fun _ k => XS.iconst X17.here hx rfl (hb hby at_21)  k) ?_
    show Rch p e below T17 (mkF m 22 #[.val (.int p1), .val (.int sel), .unset, .unset, .unset, .unset, .unset] [(.int (1 : Int32)), (.ref a14), (.ref a14)]) _
    refine Rch.st (fun _ k => XS.bipush X17.here hx rfl (hb hby at_22)  k) ?_
    show Rch p e below T17 (mkF m 24 #[.val (.int p1), .val (.int sel), .unset, .unset, .unset, .unset, .unset] [(.int (117 : Int32)), (.int (1 : Int32)), (.ref a14), (.ref a14)]) _
    obtain ⟨T19, h19, L19, sl19, X19, e19, W19, V19, N19, st19⟩ := stCv X17 hx hZ e17 V17' N17 (Nat.le_trans Z0 le16) (j := (1 : Int32)) ⟨by decide, by decide⟩ 1 rfl (Nat.le_of_ble_eq_true rfl) (g := (mkF m 24 #[.val (.int p1), .val (.int sel), .unset, .unset, .unset, .unset, .unset] [(.int (117 : Int32)), (.int (1 : Int32)), (.ref a14), (.ref a14)])) rfl rfl (hb hby at_24)
    have V19' : Arv Z h19 a14 k14 .char (7 : Int32) [(.int (97 : Int32)), (.int (117 : Int32)), (.int (0 : Int32)), (.int (0 : Int32)), (.int (0 : Int32)), (.int (0 : Int32)), (.int (0 : Int32))] (.int (0 : Int32)) := V19
    have Ex20 : Ext h0 h19 := extWr Ex18 W19 le16
    refine Rch.st st19 ?_
    show Rch p e below T19 (mkF m 25 #[.val (.int p1), .val (.int sel), .unset, .unset, .unset, .unset, .unset] [(.ref a14)]) _
    refine Rch.st (fun _ k => XS.dup X19.here hx rfl (hb hby at_25) rfl rfl k) ?_
    show Rch p e below T19 (mkF m 26 #[.val (.int p1), .val (.int sel), .unset, .unset, .unset, .unset, .unset] [(.ref a14), (.ref a14)]) _
    refine Rch.st (fun _ k => XS.iconst X19.here hx rfl (hb hby at_26)  k) ?_
    show Rch p e below T19 (mkF m 27 #[.val (.int p1), .val (.int sel), .unset, .unset, .unset, .unset, .unset] [(.int (2 : Int32)), (.ref a14), (.ref a14)]) _
    refine Rch.st (fun _ k => XS.bipush X19.here hx rfl (hb hby at_27)  k) ?_
    show Rch p e below T19 (mkF m 29 #[.val (.int p1), .val (.int sel), .unset, .unset, .unset, .unset, .unset] [(.int (99 : Int32)), (.int (2 : Int32)), (.ref a14), (.ref a14)]) _
    obtain ⟨T21, h21, L21, sl21, X21, e21, W21, V21, N21, st21⟩ := stCv X19 hx hZ e19 V19' N19 (Nat.le_trans Z0 le16) (j := (2 : Int32)) ⟨by decide, by decide⟩ 2 rfl (Nat.le_of_ble_eq_true rfl) (g := (mkF m 29 #[.val (.int p1), .val (.int sel), .unset, .unset, .unset, .unset, .unset] [(.int (99 : Int32)), (.int (2 : Int32)), (.ref a14), (.ref a14)])) rfl rfl (hb hby at_29)
    have V21' : Arv Z h21 a14 k14 .char (7 : Int32) [(.int (97 : Int32)), (.int (117 : Int32)), (.int (99 : Int32)), (.int (0 : Int32)), (.int (0 : Int32)), (.int (0 : Int32)), (.int (0 : Int32))] (.int (0 : Int32)) := V21
    have Ex22 : Ext h0 h21 := extWr Ex20 W21 le16
    refine Rch.st st21 ?_
    show Rch p e below T21 (mkF m 30 #[.val (.int p1), .val (.int sel), .unset, .unset, .unset, .unset, .unset] [(.ref a14)]) _
    refine Rch.st (fun _ k => XS.dup X21.here hx rfl (hb hby at_30) rfl rfl k) ?_
    show Rch p e below T21 (mkF m 31 #[.val (.int p1), .val (.int sel), .unset, .unset, .unset, .unset, .unset] [(.ref a14), (.ref a14)]) _
    refine Rch.st (fun _ k => XS.iconst X21.here hx rfl (hb hby at_31)  k) ?_
    show Rch p e below T21 (mkF m 32 #[.val (.int p1), .val (.int sel), .unset, .unset, .unset, .unset, .unset] [(.int (3 : Int32)), (.ref a14), (.ref a14)]) _
    refine Rch.st (fun _ k => XS.bipush X21.here hx rfl (hb hby at_32)  k) ?_
    show Rch p e below T21 (mkF m 34 #[.val (.int p1), .val (.int sel), .unset, .unset, .unset, .unset, .unset] [(.int (116 : Int32)), (.int (3 : Int32)), (.ref a14), (.ref a14)]) _
    obtain ⟨T23, h23, L23, sl23, X23, e23, W23, V23, N23, st23⟩ := stCv X21 hx hZ e21 V21' N21 (Nat.le_trans Z0 le16) (j := (3 : Int32)) ⟨by decide, by decide⟩ 3 rfl (Nat.le_of_ble_eq_true rfl) (g := (mkF m 34 #[.val (.int p1), .val (.int sel), .unset, .unset, .unset, .unset, .unset] [(.int (116 : Int32)), (.int (3 : Int32)), (.ref a14), (.ref a14)])) rfl rfl (hb hby at_34)
    have V23' : Arv Z h23 a14 k14 .char (7 : Int32) [(.int (97 : Int32)), (.int (117 : Int32)), (.int (99 : Int32)), (.int (116 : Int32)), (.int (0 : Int32)), (.int (0 : Int32)), (.int (0 : Int32))] (.int (0 : Int32)) := V23
    have Ex24 : Ext h0 h23 := extWr Ex22 W23 le16
    refine Rch.st st23 ?_
    show Rch p e below T23 (mkF m 35 #[.val (.int p1), .val (.int sel), .unset, .unset, .unset, .unset, .unset] [(.ref a14)]) _
    refine Rch.st (fun _ k => XS.dup X23.here hx rfl (hb hby at_35) rfl rfl k) ?_
    show Rch p e below T23 (mkF m 36 #[.val (.int p1), .val (.int sel), .unset, .unset, .unset, .unset, .unset] [(.ref a14), (.ref a14)]) _
    refine Rch.st (fun _ k => XS.iconst X23.here hx rfl (hb hby at_36)  k) ?_
    show Rch p e below T23 (mkF m 37 #[.val (.int p1), .val (.int sel), .unset, .unset, .unset, .unset, .unset] [(.int (4 : Int32)), (.ref a14), (.ref a14)]) _
    refine Rch.st (fun _ k => XS.bipush X23.here hx rfl (hb hby at_37)  k) ?_
    show Rch p e below T23 (mkF m 39 #[.val (.int p1), .val (.int sel), .unset, .unset, .unset, .unset, .unset] [(.int (105 : Int32)), (.int (4 : Int32)), (.ref a14), (.ref a14)]) _
    obtain ⟨T25, h25, L25, sl25, X25, e25, W25, V25, N25, st25⟩ := stCv X23 hx hZ e23 V23' N23 (Nat.le_trans Z0 le16) (j := (4 : Int32)) ⟨by decide, by decide⟩ 4 rfl (Nat.le_of_ble_eq_true rfl) (g := (mkF m 39 #[.val (.int p1), .val (.int sel), .unset, .unset, .unset, .unset, .unset] [(.int (105 : Int32)), (.int (4 : Int32)), (.ref a14), (.ref a14)])) rfl rfl (hb hby at_39)
    have V25' : Arv Z h25 a14 k14 .char (7 : Int32) [(.int (97 : Int32)), (.int (117 : Int32)), (.int (99 : Int32)), (.int (116 : Int32)), (.int (105 : Int32)), (.int (0 : Int32)), (.int (0 : Int32))] (.int (0 : Int32)) := V25
    have Ex26 : Ext h0 h25 := extWr Ex24 W25 le16
    refine Rch.st st25 ?_
    show Rch p e below T25 (mkF m 40 #[.val (.int p1), .val (.int sel), .unset, .unset, .unset, .unset, .unset] [(.ref a14)]) _
    refine Rch.st (fun _ k => XS.dup X25.here hx rfl (hb hby at_40) rfl rfl k) ?_
    show Rch p e below T25 (mkF m 41 #[.val (.int p1), .val (.int sel), .unset, .unset, .unset, .unset, .unset] [(.ref a14), (.ref a14)]) _
    refine Rch.st (fun _ k => XS.iconst X25.here hx rfl (hb hby at_41)  k) ?_
    show Rch p e below T25 (mkF m 42 #[.val (.int p1), .val (.int sel), .unset, .unset, .unset, .unset, .unset] [(.int (5 : Int32)), (.ref a14), (.ref a14)]) _
    refine Rch.st (fun _ k => XS.bipush X25.here hx rfl (hb hby at_42)  k) ?_
    show Rch p e below T25 (mkF m 44 #[.val (.int p1), .val (.int sel), .unset, .unset, .unset, .unset, .unset] [(.int (111 : Int32)), (.int (5 : Int32)), (.ref a14), (.ref a14)]) _
    obtain ⟨T27, h27, L27, sl27, X27, e27, W27, V27, N27, st27⟩ := stCv X25 hx hZ e25 V25' N25 (Nat.le_trans Z0 le16) (j := (5 : Int32)) ⟨by decide, by decide⟩ 5 rfl (Nat.le_of_ble_eq_true rfl) (g := (mkF m 44 #[.val (.int p1), .val (.int sel), .unset, .unset, .unset, .unset, .unset] [(.int (111 : Int32)), (.int (5 : Int32)), (.ref a14), (.ref a14)])) rfl rfl (hb hby at_44)
    have V27' : Arv Z h27 a14 k14 .char (7 : Int32) [(.int (97 : Int32)), (.int (117 : Int32)), (.int (99 : Int32)), (.int (116 : Int32)), (.int (105 : Int32)), (.int (111 : Int32)), (.int (0 : Int32))] (.int (0 : Int32)) := V27
    have Ex28 : Ext h0 h27 := extWr Ex26 W27 le16
    refine Rch.st st27 ?_
    show Rch p e below T27 (mkF m 45 #[.val (.int p1), .val (.int sel), .unset, .unset, .unset, .unset, .unset] [(.ref a14)]) _
    refine Rch.st (fun _ k => XS.dup X27.here hx rfl (hb hby at_45) rfl rfl k) ?_
    show Rch p e below T27 (mkF m 46 #[.val (.int p1), .val (.int sel), .unset, .unset, .unset, .unset, .unset] [(.ref a14), (.ref a14)]) _
    refine Rch.st (fun _ k => XS.bipush X27.here hx rfl (hb hby at_46)  k) ?_
    show Rch p e below T27 (mkF m 48 #[.val (.int p1), .val (.int sel), .unset, .unset, .unset, .unset, .unset] [(.int (6 : Int32)), (.ref a14), (.ref a14)]) _
    refine Rch.st (fun _ k => XS.bipush X27.here hx rfl (hb hby at_48)  k) ?_
    show Rch p e below T27 (mkF m 50 #[.val (.int p1), .val (.int sel), .unset, .unset, .unset, .unset, .unset] [(.int (110 : Int32)), (.int (6 : Int32)), (.ref a14), (.ref a14)]) _
    obtain ⟨T29, h29, L29, sl29, X29, e29, W29, V29, N29, st29⟩ := stCv X27 hx hZ e27 V27' N27 (Nat.le_trans Z0 le16) (j := (6 : Int32)) ⟨by decide, by decide⟩ 6 rfl (Nat.le_of_ble_eq_true rfl) (g := (mkF m 50 #[.val (.int p1), .val (.int sel), .unset, .unset, .unset, .unset, .unset] [(.int (110 : Int32)), (.int (6 : Int32)), (.ref a14), (.ref a14)])) rfl rfl (hb hby at_50)
    have V29' : Arv Z h29 a14 k14 .char (7 : Int32) [(.int (97 : Int32)), (.int (117 : Int32)), (.int (99 : Int32)), (.int (116 : Int32)), (.int (105 : Int32)), (.int (111 : Int32)), (.int (110 : Int32))] (.int (0 : Int32)) := V29
    have Ex30 : Ext h0 h29 := extWr Ex28 W29 le16
    refine Rch.st st29 ?_
    show Rch p e below T29 (mkF m 51 #[.val (.int p1), .val (.int sel), .unset, .unset, .unset, .unset, .unset] [(.ref a14)]) _
    refine Rch.st (fun _ k => XS.astoreN X29.here hx rfl (hb hby at_51) rfl rfl (l' := #[.val (.int p1), .val (.int sel), .val (.ref a14), .unset, .unset, .unset, .unset]) rfl k) ?_
    show Rch p e below T29 (mkF m 52 #[.val (.int p1), .val (.int sel), .val (.ref a14), .unset, .unset, .unset, .unset] []) _
    obtain ⟨T31, X31, e31, st31⟩ := getS2 X29 hx hZ hown (host := "") (Or.inl (wq hw 2 rfl)) Via.refl e29 (B.ext Ex30).2.2.2.1 (g := (mkF m 52 #[.val (.int p1), .val (.int sel), .val (.ref a14), .unset, .unset, .unset, .unset] [])) rfl (hb hby at_52)
    refine Rch.st st31 ?_
    show Rch p e below T31 (mkF m 55 #[.val (.int p1), .val (.int sel), .val (.ref a14), .unset, .unset, .unset, .unset] [(.ref w0)]) _
    refine Rch.st (fun _ k => XS.astoreN X31.here hx rfl (hb hby at_55) rfl rfl (l' := #[.val (.int p1), .val (.int sel), .val (.ref a14), .val (.ref w0), .unset, .unset, .unset]) rfl k) ?_
    show Rch p e below T31 (mkF m 56 #[.val (.int p1), .val (.int sel), .val (.ref a14), .val (.ref w0), .unset, .unset, .unset] []) _
    refine Rch.st (fun _ k => XS.goto X31.here hx rfl (pc0 := 56) (pc' := 223) rfl (hb hby at_56) (by decide) (by decide) k) ?_
    show Rch p e below T31 (mkF m 223 #[.val (.int p1), .val (.int sel), .val (.ref a14), .val (.ref w0), .unset, .unset, .unset] []) _
    obtain ⟨T32, h32, X32, e32, E32, A32, D32, -, st32⟩ := newO X31 hx hZ hown (wq hw 5 rfl) (wq hw 6 rfl) (wq hw 7 rfl) e31 (g := (mkF m 223 #[.val (.int p1), .val (.int sel), .val (.ref a14), .val (.ref w0), .unset, .unset, .unset] [])) rfl (hb hby at_223) (by decide) (by decide)
    obtain ⟨a32, g32⟩ : ∃ z, z = h29.size := ⟨_, rfl⟩
    rw [← g32] at A32 D32 st32
    have Ex33 : Ext h0 h32 := Ex30.tr E32
    have Ex34 : Ext h29 h32 := E32
    have le35 : h0.size ≤ a32 := Nat.le_trans Ex30.1 (Nat.le_of_eq g32.symm)
    have le36 : h29.size ≤ a32 := Nat.le_of_eq g32.symm
    refine Rch.st st32 ?_
    show Rch p e below T32 (mkF m 226 #[.val (.int p1), .val (.int sel), .val (.ref a14), .val (.ref w0), .unset, .unset, .unset] [(.ref a32)]) _
    refine Rch.st (fun _ k => XS.dup X32.here hx rfl (hb hby at_226) rfl rfl k) ?_
    show Rch p e below T32 (mkF m 227 #[.val (.int p1), .val (.int sel), .val (.ref a14), .val (.ref w0), .unset, .unset, .unset] [(.ref a32), (.ref a32)]) _
    refine Rch.st (fun _ k => XS.aloadN X32.here hx rfl (hb hby at_227) rfl rfl k) ?_
    show Rch p e below T32 (mkF m 228 #[.val (.int p1), .val (.int sel), .val (.ref a14), .val (.ref w0), .unset, .unset, .unset] [(.ref a14), (.ref a32), (.ref a32)]) _
    obtain ⟨_, _, ⟨T37, L37, k37, n37⟩, -, X37, ⟨Lc37, hQ37, l37, y37, z37⟩, st37⟩ := X32.specialBack hx (y := (⟨"java/lang/String", "<init>", "([C)V"⟩ : MethodName)) rfl hown (mvT hZ (wq hw 8 rfl)) (mvT hZ (wq hw 9 rfl)) (mvT hZ (wq hw 10 rfl)) (by decide) (backS (W := 1) hZ hw (cs := [(97 : Int32), (117 : Int32), (99 : Int32), (116 : Int32), (105 : Int32), (111 : Int32), (110 : Int32)]) (n := 7) (Nat.le_trans Z0 le35) (Nat.le_trans Z0 Ex33.1) A32 ((D32 (Or.inr (wq hw 33 rfl)) (ty := (.array .byte)) (by decide)).ext Ext.rf) ((D32 (Or.inr (wq hw 31 rfl)) (ty := .byte) (by decide)).ext Ext.rf) (V29'.ext Ex34) (B.ext Ex33).2.2.2.2.2.2.2.2.2.2.2.2.1 rfl rfl (by decide) (by decide) (by decide) (by decide) (by decide)) (g := (mkF m 228 #[.val (.int p1), .val (.int sel), .val (.ref a14), .val (.ref w0), .unset, .unset, .unset] [(.ref a14), (.ref a32), (.ref a32)])) rfl (by rw [hml]; rfl) (Steps.refl _) (a := a32) (argsL := [(.ref a14)]) (rest := [(.ref a32)]) (lenOf pd_2 rfl) rfl (by show 2 * 0 + _ ≤ _; exact Nat.le_of_eq rfl) (hb hby at_228) (fun _ _ => ⟨rfl, e32, (by decide : 2 + 1 ≤ _), (by decide : 11 + 7 ≤ _)⟩)
    dsimp only [Pt.U, Pt.locs, Pt.cells, Pt.slots] at X37 l37 y37 z37 st37 hQ37
    subst l37 y37 z37
    obtain ⟨rfl, Nq37, K37, Q37⟩ := hQ37
    have N37 := Fr.app N29 Nq37
    have Ex38 : Ext h0 T37.heap := extKeep1 Ex33 K37 le35
    have Ex39 : Ext h29 T37.heap := extKeep1 Ex34 K37 le36
    refine Rch.go st37 ?_
    show Rch p e below T37 (mkF m 231 #[.val (.int p1), .val (.int sel), .val (.ref a14), .val (.ref w0), .unset, .unset, .unset] [(.ref a32)]) _
    refine Rch.st (fun _ k => XS.astore X37.here hx rfl (hb hby at_231) rfl rfl (l' := #[.val (.int p1), .val (.int sel), .val (.ref a14), .val (.ref w0), .val (.ref a32), .unset, .unset]) rfl k) ?_
    show Rch p e below T37 (mkF m 233 #[.val (.int p1), .val (.int sel), .val (.ref a14), .val (.ref w0), .val (.ref a32), .unset, .unset] []) _
    refine Rch.st (fun _ k => XS.aload X37.here hx rfl (hb hby at_233) rfl rfl k) ?_
    show Rch p e below T37 (mkF m 235 #[.val (.int p1), .val (.int sel), .val (.ref a14), .val (.ref w0), .val (.ref a32), .unset, .unset] [(.ref a32)]) _
    obtain ⟨_, _, ⟨T40, L40, k40, n40⟩, -, X40, ⟨Lc40, hQ40, l40, y40, z40⟩, st40⟩ := Jvm.LawKit.callS X37 hx (y := (⟨"com/example/driftmark/driftmark/TradeKind", "parse", "(Ljava/lang/String;)Lcom/example/driftmark/driftmark/TradeKind;"⟩ : MethodName)) hown (mvT hZ (wq hw 34 rfl)) (mvT hZ (wq hw 35 rfl)) (mvT hZ (wq hw 3 rfl)) (mvT hZ (wq hw 36 rfl)) (by decide) (backOf (W := 0) (rm_parse l Z a0 hw [] a32 [(97 : Int32), (117 : Int32), (99 : Int32), (116 : Int32), (105 : Int32), (111 : Int32), (110 : Int32)] va w0 w1 w2 c0 c1 c2 kA T37.heap n0 (Nat.le_trans Z0 Ex38.1) Q37 (Or.inl rfl) (B.ext Ex38)) hZ (wq hw 36 rfl) (wq hw 3 rfl) (by decide) (by decide)) (g := (mkF m 235 #[.val (.int p1), .val (.int sel), .val (.ref a14), .val (.ref w0), .val (.ref a32), .unset, .unset] [(.ref a32)])) rfl (by rw [hml]; rfl) (argsL := [(.ref a32)]) (rest := []) (lenOf pd_3 rfl) rfl (by show 2 * 0 + _ ≤ _; exact Nat.le_of_eq rfl) (hb hby at_235) (fun _ _ => ⟨rfl, rfl, (by decide : 3 + 1 ≤ _), (by decide : 18 + 3 ≤ _)⟩)
    dsimp only [Pt.U, Pt.locs, Pt.cells, Pt.slots] at X40 l40 y40 z40 st40 hQ40
    subst l40 y40 z40
    obtain ⟨a40, rfl, Nq40, E40, i0_40, i1_40, i2_40⟩ := hQ40
    have N40 := Fr.app N37 Nq40
    have Ex41 : Ext h0 T40.heap := Ex38.tr E40
    have Ex42 : Ext h29 T40.heap := Ex39.tr E40
    have Ex43 : Ext T37.heap T40.heap := E40
    obtain rfl : w0 = a40 := (i0_40 rfl).symm
    refine Rch.st st40 ?_
    show Rch p e below T40 (mkF m 238 #[.val (.int p1), .val (.int sel), .val (.ref a14), .val (.ref w0), .val (.ref a32), .unset, .unset] [(.ref w0)]) _
    refine Rch.st (fun _ k => XS.astore X40.here hx rfl (hb hby at_238) rfl rfl (l' := #[.val (.int p1), .val (.int sel), .val (.ref a14), .val (.ref w0), .val (.ref a32), .val (.ref w0), .unset]) rfl k) ?_
    show Rch p e below T40 (mkF m 240 #[.val (.int p1), .val (.int sel), .val (.ref a14), .val (.ref w0), .val (.ref a32), .val (.ref w0), .unset] []) _
    refine Rch.st (fun _ k => XS.aloadN X40.here hx rfl (hb hby at_240) rfl rfl k) ?_
    show Rch p e below T40 (mkF m 241 #[.val (.int p1), .val (.int sel), .val (.ref a14), .val (.ref w0), .val (.ref a32), .val (.ref w0), .unset] [(.ref w0)]) _
    obtain ⟨cq44, kq44, q44a, q44b, q44c⟩ := isOf hZ rfl ((B.ext Ex41).2.2.2.2.2.2.2.2.2.2.2.2.2.1)
    obtain ⟨_, _, ⟨T44, L44, k44, n44⟩, -, X44, ⟨Lc44, hQ44, l44, y44, z44⟩, st44⟩ := X40.virtualBack hx (y := (⟨"com/example/driftmark/driftmark/TradeKind", "code", "()Ljava/lang/String;"⟩ : MethodName)) (z := (⟨"com/example/driftmark/driftmark/TradeKind", "code", "()Ljava/lang/String;"⟩ : MethodName)) hown (mvT hZ (wq hw 66 rfl)) (mvT hZ (wq hw 67 rfl)) (notFace_of_selects (args := #[]) (mvT hZ (wq hw 69 rfl))) (mvT hZ (wq hw 69 rfl)) (mvT hZ (wq hw 68 rfl)) (by decide) (backOf (W := 0) (rm_code l Z a0 hw [] w0 c0 T40.heap n0 (Nat.le_trans Z0 Ex41.1) ((B.ext Ex41).2.2.2.2.2.2.1)) hZ (wq hw 70 rfl) (wq hw 3 rfl) (by decide) (by decide)) q44a q44c (g := (mkF m 241 #[.val (.int p1), .val (.int sel), .val (.ref a14), .val (.ref w0), .val (.ref a32), .val (.ref w0), .unset] [(.ref w0)])) rfl (by rw [hml]; rfl) (Steps.refl _) (argsL := []) (rest := []) (lenOf pd_4 rfl) rfl (by show 2 * 0 + _ ≤ _; exact Nat.le_of_eq rfl) (hb hby at_241) (fun _ _ => ⟨rfl, rfl, (by decide : 4 + 0 ≤ _), (by decide : 21 + 0 ≤ _)⟩)
    dsimp only [Pt.U, Pt.locs, Pt.cells, Pt.slots] at X44 l44 y44 z44 st44 hQ44
    subst l44 y44 z44
    obtain ⟨rfl, Nq44, e44⟩ := hQ44
    have N44 := Fr.app N40 Nq44
    refine Rch.go st44 ?_
    show Rch p e below T44 (mkF m 244 #[.val (.int p1), .val (.int sel), .val (.ref a14), .val (.ref w0), .val (.ref a32), .val (.ref w0), .unset] [(.ref c0)]) _
    obtain ⟨_, _, ⟨T45, L45, k45, n45⟩, -, X45, ⟨Lc45, hQ45, l45, y45, z45⟩, st45⟩ := Jvm.LawKit.callS X44 hx (y := (⟨"com/example/driftmark/driftmark/TradeKind", "parse", "(Ljava/lang/String;)Lcom/example/driftmark/driftmark/TradeKind;"⟩ : MethodName)) hown (mvT hZ (wq hw 34 rfl)) (mvT hZ (wq hw 35 rfl)) (mvT hZ (wq hw 3 rfl)) (mvT hZ (wq hw 36 rfl)) (by decide) (backOf (W := 0) (rm_parse l Z a0 hw [] c0 ([97, 117, 99, 116, 105, 111, 110] : List Int32) va w0 w1 w2 c0 c1 c2 kA T40.heap n0 (Nat.le_trans Z0 Ex41.1) ((B.ext Ex41).2.2.2.2.2.2.2.2.2.1) (Or.inl rfl) (B.ext Ex41)) hZ (wq hw 36 rfl) (wq hw 3 rfl) (by decide) (by decide)) (g := (mkF m 244 #[.val (.int p1), .val (.int sel), .val (.ref a14), .val (.ref w0), .val (.ref a32), .val (.ref w0), .unset] [(.ref c0)])) rfl (by rw [hml]; rfl) (argsL := [(.ref c0)]) (rest := []) (lenOf pd_3 rfl) rfl (by show 2 * 0 + _ ≤ _; exact Nat.le_of_eq rfl) (hb hby at_244) (fun _ _ => ⟨rfl, e44, (by decide : 4 + 1 ≤ _), (by decide : 21 + 3 ≤ _)⟩)
    dsimp only [Pt.U, Pt.locs, Pt.cells, Pt.slots] at X45 l45 y45 z45 st45 hQ45
    subst l45 y45 z45
    obtain ⟨a45, rfl, Nq45, E45, i0_45, i1_45, i2_45⟩ := hQ45
    have N45 := Fr.app N44 Nq45
    have Ex46 : Ext h0 T45.heap := Ex41.tr E45
    have Ex47 : Ext h29 T45.heap := Ex42.tr E45
    have Ex48 : Ext T37.heap T45.heap := Ex43.tr E45
    have Ex49 : Ext T40.heap T45.heap := E45
    obtain rfl : w0 = a45 := (i0_45 rfl).symm
    refine Rch.st st45 ?_
    show Rch p e below T45 (mkF m 247 #[.val (.int p1), .val (.int sel), .val (.ref a14), .val (.ref w0), .val (.ref a32), .val (.ref w0), .unset] [(.ref w0)]) _
    refine Rch.st (fun _ k => XS.astore X45.here hx rfl (hb hby at_247) rfl rfl (l' := #[.val (.int p1), .val (.int sel), .val (.ref a14), .val (.ref w0), .val (.ref a32), .val (.ref w0), .val (.ref w0)]) rfl k) ?_
    show Rch p e below T45 (mkF m 249 #[.val (.int p1), .val (.int sel), .val (.ref a14), .val (.ref w0), .val (.ref a32), .val (.ref w0), .val (.ref w0)] []) _
    refine Rch.st (fun _ k => XS.aload X45.here hx rfl (hb hby at_249) rfl rfl k) ?_
    show Rch p e below T45 (mkF m 251 #[.val (.int p1), .val (.int sel), .val (.ref a14), .val (.ref w0), .val (.ref a32), .val (.ref w0), .val (.ref w0)] [(.ref w0)]) _
    refine Rch.st (fun _ k => XS.aloadN X45.here hx rfl (hb hby at_251) rfl rfl k) ?_
    show Rch p e below T45 (mkF m 252 #[.val (.int p1), .val (.int sel), .val (.ref a14), .val (.ref w0), .val (.ref a32), .val (.ref w0), .val (.ref w0)] [(.ref w0), (.ref w0)]) _
    refine Rch.st (fun _ k => XT.acmpNo X45.here hx rfl (hb hby at_252) rfl rfl rfl (acN _) k) ?_
    show Rch p e below T45 (mkF m 255 #[.val (.int p1), .val (.int sel), .val (.ref a14), .val (.ref w0), .val (.ref a32), .val (.ref w0), .val (.ref w0)] []) _
    refine Rch.st (fun _ k => XS.aload X45.here hx rfl (hb hby at_255) rfl rfl k) ?_
    show Rch p e below T45 (mkF m 257 #[.val (.int p1), .val (.int sel), .val (.ref a14), .val (.ref w0), .val (.ref a32), .val (.ref w0), .val (.ref w0)] [(.ref w0)]) _
    refine Rch.st (fun _ k => XS.aloadN X45.here hx rfl (hb hby at_257) rfl rfl k) ?_
    show Rch p e below T45 (mkF m 258 #[.val (.int p1), .val (.int sel), .val (.ref a14), .val (.ref w0), .val (.ref a32), .val (.ref w0), .val (.ref w0)] [(.ref w0), (.ref w0)]) _
    refine Rch.st (fun _ k => XT.acmpNo X45.here hx rfl (hb hby at_258) rfl rfl rfl (acN _) k) ?_
    show Rch p e below T45 (mkF m 261 #[.val (.int p1), .val (.int sel), .val (.ref a14), .val (.ref w0), .val (.ref a32), .val (.ref w0), .val (.ref w0)] []) _
    refine Rch.st (fun _ k => XS.iconst X45.here hx rfl (hb hby at_261)  k) ?_
    show Rch p e below T45 (mkF m 262 #[.val (.int p1), .val (.int sel), .val (.ref a14), .val (.ref w0), .val (.ref a32), .val (.ref w0), .val (.ref w0)] [(.int (1 : Int32))]) _
    refine Rch.st (fun _ k => XS.goto X45.here hx rfl (pc0 := 262) (pc' := 266) rfl (hb hby at_262) (by decide) (by decide) k) ?_
    show Rch p e below T45 (mkF m 266 #[.val (.int p1), .val (.int sel), .val (.ref a14), .val (.ref w0), .val (.ref a32), .val (.ref w0), .val (.ref w0)] [(.int (1 : Int32))]) _
    exact Rch.fin (Q := Q_law Z p1 va w0 w1 w2 c0 c1 c2 kA h0 n0) X45 (v := some (.int (1 : Int32))) (fun h => by rw [Bd.returns] at h; cases h) (BodyLoose.notSynchronized Bd) (fun fs hr => retN X45 hx (t := .boolean) Bd.returns (by simp) (hb hby at_266) hr) ⟨rfl, N45⟩ (by decide) (by decide)
  · skip
    refine Rch.st (fun _ k => XS.ifYes X0.here hx rfl (pc0 := 8) (pc' := 59) rfl (hb hby at_8) rfl ((if0 _ _).trans (feq hs0).2) (by decide) (by decide) k) ?_
    show Rch p e below s₁ (mkF m 59 #[.val (.int p1), .val (.int sel), .unset, .unset, .unset, .unset, .unset] []) _
    refine Rch.st (fun _ k => XS.iloadN X0.here hx rfl (hb hby at_59) rfl k) ?_
    show Rch p e below s₁ (mkF m 60 #[.val (.int p1), .val (.int sel), .unset, .unset, .unset, .unset, .unset] [(.int sel)]) _
    refine Rch.st (fun _ k => XS.iconst X0.here hx rfl (hb hby at_60)  k) ?_
    show Rch p e below s₁ (mkF m 61 #[.val (.int p1), .val (.int sel), .unset, .unset, .unset, .unset, .unset] [(.int (1 : Int32)), (.int sel)]) _
    by_cases hs1 : sel = (1 : Int32)
    · skip
      refine Rch.st (fun _ k => XS.icmpNo X0.here hx rfl (hb hby at_61) rfl (teq hs1).2 k) ?_
      show Rch p e below s₁ (mkF m 64 #[.val (.int p1), .val (.int sel), .unset, .unset, .unset, .unset, .unset] []) _
      refine Rch.st (fun _ k => XS.bipush X0.here hx rfl (hb hby at_64)  k) ?_
      show Rch p e below s₁ (mkF m 66 #[.val (.int p1), .val (.int sel), .unset, .unset, .unset, .unset, .unset] [(.int (15 : Int32))]) _
      obtain ⟨T50, h50, k50, X50, e50, E50, A50, st50⟩ := newP X0 hx hZ (wq hw 1 rfl) e0 (g := (mkF m 66 #[.val (.int p1), .val (.int sel), .unset, .unset, .unset, .unset, .unset] [(.int (15 : Int32))])) rfl (hb hby at_66) rfl (by decide : ¬ ((15 : Int32) < (0 : Int32))) (cap := 15) (by decide : ((15 : Int32)).toNatClampNeg ≤ 15) (by decide) (by decide) (by decide)
      obtain ⟨a50, g50⟩ : ∃ z, z = h0.size := ⟨_, rfl⟩
      rw [← g50] at A50 st50
      have Ex51 : Ext h0 h50 := E50
      have le52 : h0.size ≤ a50 := Nat.le_of_eq g50.symm
      refine Rch.st st50 ?_
      show Rch p e below T50 (mkF m 68 #[.val (.int p1), .val (.int sel), .unset, .unset, .unset, .unset, .unset] [(.ref a50)]) _
      have V50 : Arv Z h50 a50 k50 .char (15 : Int32) [(.int (0 : Int32)), (.int (0 : Int32)), (.int (0 : Int32)), (.int (0 : Int32)), (.int (0 : Int32)), (.int (0 : Int32)), (.int (0 : Int32)), (.int (0 : Int32)), (.int (0 : Int32)), (.int (0 : Int32)), (.int (0 : Int32)), (.int (0 : Int32)), (.int (0 : Int32)), (.int (0 : Int32)), (.int (0 : Int32))] (.int (0 : Int32)) := (Arv.new A50 (by decide : ¬ ((15 : Int32) < (0 : Int32)))).pad (pad_rep [] (.int (0 : Int32)) 15)
      refine Rch.st (fun _ k => XS.dup X50.here hx rfl (hb hby at_68) rfl rfl k) ?_
      show Rch p e below T50 (mkF m 69 #[.val (.int p1), .val (.int sel), .unset, .unset, .unset, .unset, .unset] [(.ref a50), (.ref a50)]) _
      refine Rch.st (fun _ k => XS.iconst X50.here hx rfl (hb hby at_69)  k) ?_
      show Rch p e below T50 (mkF m 70 #[.val (.int p1), .val (.int sel), .unset, .unset, .unset, .unset, .unset] [(.int (0 : Int32)), (.ref a50), (.ref a50)]) _
      refine Rch.st (fun _ k => XS.bipush X50.here hx rfl (hb hby at_70)  k) ?_
      show Rch p e below T50 (mkF m 72 #[.val (.int p1), .val (.int sel), .unset, .unset, .unset, .unset, .unset] [(.int (114 : Int32)), (.int (0 : Int32)), (.ref a50), (.ref a50)]) _
      obtain ⟨T53, h53, L53, sl53, X53, e53, W53, V53, N53, st53⟩ := stCv X50 hx hZ e50 V50 N0 (Nat.le_trans Z0 le52) (j := (0 : Int32)) ⟨by decide, by decide⟩ 0 rfl (Nat.le_of_ble_eq_true rfl) (g := (mkF m 72 #[.val (.int p1), .val (.int sel), .unset, .unset, .unset, .unset, .unset] [(.int (114 : Int32)), (.int (0 : Int32)), (.ref a50), (.ref a50)])) rfl rfl (hb hby at_72)
      have V53' : Arv Z h53 a50 k50 .char (15 : Int32) [(.int (114 : Int32)), (.int (0 : Int32)), (.int (0 : Int32)), (.int (0 : Int32)), (.int (0 : Int32)), (.int (0 : Int32)), (.int (0 : Int32)), (.int (0 : Int32)), (.int (0 : Int32)), (.int (0 : Int32)), (.int (0 : Int32)), (.int (0 : Int32)), (.int (0 : Int32)), (.int (0 : Int32)), (.int (0 : Int32))] (.int (0 : Int32)) := V53
      have Ex54 : Ext h0 h53 := extWr Ex51 W53 le52
      refine Rch.st st53 ?_
      show Rch p e below T53 (mkF m 73 #[.val (.int p1), .val (.int sel), .unset, .unset, .unset, .unset, .unset] [(.ref a50)]) _
      refine Rch.st (fun _ k => XS.dup X53.here hx rfl (hb hby at_73) rfl rfl k) ?_
      show Rch p e below T53 (mkF m 74 #[.val (.int p1), .val (.int sel), .unset, .unset, .unset, .unset, .unset] [(.ref a50), (.ref a50)]) _
      refine Rch.st (fun _ k => XS.iconst X53.here hx rfl (hb hby at_74)  k) ?_
      show Rch p e below T53 (mkF m 75 #[.val (.int p1), .val (.int sel), .unset, .unset, .unset, .unset, .unset] [(.int (1 : Int32)), (.ref a50), (.ref a50)]) _
      refine Rch.st (fun _ k => XS.bipush X53.here hx rfl (hb hby at_75)  k) ?_
      show Rch p e below T53 (mkF m 77 #[.val (.int p1), .val (.int sel), .unset, .unset, .unset, .unset, .unset] [(.int (101 : Int32)), (.int (1 : Int32)), (.ref a50), (.ref a50)]) _
      obtain ⟨T55, h55, L55, sl55, X55, e55, W55, V55, N55, st55⟩ := stCv X53 hx hZ e53 V53' N53 (Nat.le_trans Z0 le52) (j := (1 : Int32)) ⟨by decide, by decide⟩ 1 rfl (Nat.le_of_ble_eq_true rfl) (g := (mkF m 77 #[.val (.int p1), .val (.int sel), .unset, .unset, .unset, .unset, .unset] [(.int (101 : Int32)), (.int (1 : Int32)), (.ref a50), (.ref a50)])) rfl rfl (hb hby at_77)
      have V55' : Arv Z h55 a50 k50 .char (15 : Int32) [(.int (114 : Int32)), (.int (101 : Int32)), (.int (0 : Int32)), (.int (0 : Int32)), (.int (0 : Int32)), (.int (0 : Int32)), (.int (0 : Int32)), (.int (0 : Int32)), (.int (0 : Int32)), (.int (0 : Int32)), (.int (0 : Int32)), (.int (0 : Int32)), (.int (0 : Int32)), (.int (0 : Int32)), (.int (0 : Int32))] (.int (0 : Int32)) := V55
      have Ex56 : Ext h0 h55 := extWr Ex54 W55 le52
      refine Rch.st st55 ?_
      show Rch p e below T55 (mkF m 78 #[.val (.int p1), .val (.int sel), .unset, .unset, .unset, .unset, .unset] [(.ref a50)]) _
      refine Rch.st (fun _ k => XS.dup X55.here hx rfl (hb hby at_78) rfl rfl k) ?_
      show Rch p e below T55 (mkF m 79 #[.val (.int p1), .val (.int sel), .unset, .unset, .unset, .unset, .unset] [(.ref a50), (.ref a50)]) _
      refine Rch.st (fun _ k => XS.iconst X55.here hx rfl (hb hby at_79)  k) ?_
      show Rch p e below T55 (mkF m 80 #[.val (.int p1), .val (.int sel), .unset, .unset, .unset, .unset, .unset] [(.int (2 : Int32)), (.ref a50), (.ref a50)]) _
      refine Rch.st (fun _ k => XS.bipush X55.here hx rfl (hb hby at_80)  k) ?_
      show Rch p e below T55 (mkF m 82 #[.val (.int p1), .val (.int sel), .unset, .unset, .unset, .unset, .unset] [(.int (99 : Int32)), (.int (2 : Int32)), (.ref a50), (.ref a50)]) _
      obtain ⟨T57, h57, L57, sl57, X57, e57, W57, V57, N57, st57⟩ := stCv X55 hx hZ e55 V55' N55 (Nat.le_trans Z0 le52) (j := (2 : Int32)) ⟨by decide, by decide⟩ 2 rfl (Nat.le_of_ble_eq_true rfl) (g := (mkF m 82 #[.val (.int p1), .val (.int sel), .unset, .unset, .unset, .unset, .unset] [(.int (99 : Int32)), (.int (2 : Int32)), (.ref a50), (.ref a50)])) rfl rfl (hb hby at_82)
      have V57' : Arv Z h57 a50 k50 .char (15 : Int32) [(.int (114 : Int32)), (.int (101 : Int32)), (.int (99 : Int32)), (.int (0 : Int32)), (.int (0 : Int32)), (.int (0 : Int32)), (.int (0 : Int32)), (.int (0 : Int32)), (.int (0 : Int32)), (.int (0 : Int32)), (.int (0 : Int32)), (.int (0 : Int32)), (.int (0 : Int32)), (.int (0 : Int32)), (.int (0 : Int32))] (.int (0 : Int32)) := V57
      have Ex58 : Ext h0 h57 := extWr Ex56 W57 le52
      refine Rch.st st57 ?_
      show Rch p e below T57 (mkF m 83 #[.val (.int p1), .val (.int sel), .unset, .unset, .unset, .unset, .unset] [(.ref a50)]) _
      refine Rch.st (fun _ k => XS.dup X57.here hx rfl (hb hby at_83) rfl rfl k) ?_
      show Rch p e below T57 (mkF m 84 #[.val (.int p1), .val (.int sel), .unset, .unset, .unset, .unset, .unset] [(.ref a50), (.ref a50)]) _
      refine Rch.st (fun _ k => XS.iconst X57.here hx rfl (hb hby at_84)  k) ?_
      show Rch p e below T57 (mkF m 85 #[.val (.int p1), .val (.int sel), .unset, .unset, .unset, .unset, .unset] [(.int (3 : Int32)), (.ref a50), (.ref a50)]) _
      refine Rch.st (fun _ k => XS.bipush X57.here hx rfl (hb hby at_85)  k) ?_
      show Rch p e below T57 (mkF m 87 #[.val (.int p1), .val (.int sel), .unset, .unset, .unset, .unset, .unset] [(.int (111 : Int32)), (.int (3 : Int32)), (.ref a50), (.ref a50)]) _
      obtain ⟨T59, h59, L59, sl59, X59, e59, W59, V59, N59, st59⟩ := stCv X57 hx hZ e57 V57' N57 (Nat.le_trans Z0 le52) (j := (3 : Int32)) ⟨by decide, by decide⟩ 3 rfl (Nat.le_of_ble_eq_true rfl) (g := (mkF m 87 #[.val (.int p1), .val (.int sel), .unset, .unset, .unset, .unset, .unset] [(.int (111 : Int32)), (.int (3 : Int32)), (.ref a50), (.ref a50)])) rfl rfl (hb hby at_87)
      have V59' : Arv Z h59 a50 k50 .char (15 : Int32) [(.int (114 : Int32)), (.int (101 : Int32)), (.int (99 : Int32)), (.int (111 : Int32)), (.int (0 : Int32)), (.int (0 : Int32)), (.int (0 : Int32)), (.int (0 : Int32)), (.int (0 : Int32)), (.int (0 : Int32)), (.int (0 : Int32)), (.int (0 : Int32)), (.int (0 : Int32)), (.int (0 : Int32)), (.int (0 : Int32))] (.int (0 : Int32)) := V59
      have Ex60 : Ext h0 h59 := extWr Ex58 W59 le52
      refine Rch.st st59 ?_
      show Rch p e below T59 (mkF m 88 #[.val (.int p1), .val (.int sel), .unset, .unset, .unset, .unset, .unset] [(.ref a50)]) _
      refine Rch.st (fun _ k => XS.dup X59.here hx rfl (hb hby at_88) rfl rfl k) ?_
      show Rch p e below T59 (mkF m 89 #[.val (.int p1), .val (.int sel), .unset, .unset, .unset, .unset, .unset] [(.ref a50), (.ref a50)]) _
      refine Rch.st (fun _ k => XS.iconst X59.here hx rfl (hb hby at_89)  k) ?_
      show Rch p e below T59 (mkF m 90 #[.val (.int p1), .val (.int sel), .unset, .unset, .unset, .unset, .unset] [(.int (4 : Int32)), (.ref a50), (.ref a50)]) _
      refine Rch.st (fun _ k => XS.bipush X59.here hx rfl (hb hby at_90)  k) ?_
      show Rch p e below T59 (mkF m 92 #[.val (.int p1), .val (.int sel), .unset, .unset, .unset, .unset, .unset] [(.int (110 : Int32)), (.int (4 : Int32)), (.ref a50), (.ref a50)]) _
      obtain ⟨T61, h61, L61, sl61, X61, e61, W61, V61, N61, st61⟩ := stCv X59 hx hZ e59 V59' N59 (Nat.le_trans Z0 le52) (j := (4 : Int32)) ⟨by decide, by decide⟩ 4 rfl (Nat.le_of_ble_eq_true rfl) (g := (mkF m 92 #[.val (.int p1), .val (.int sel), .unset, .unset, .unset, .unset, .unset] [(.int (110 : Int32)), (.int (4 : Int32)), (.ref a50), (.ref a50)])) rfl rfl (hb hby at_92)
      have V61' : Arv Z h61 a50 k50 .char (15 : Int32) [(.int (114 : Int32)), (.int (101 : Int32)), (.int (99 : Int32)), (.int (111 : Int32)), (.int (110 : Int32)), (.int (0 : Int32)), (.int (0 : Int32)), (.int (0 : Int32)), (.int (0 : Int32)), (.int (0 : Int32)), (.int (0 : Int32)), (.int (0 : Int32)), (.int (0 : Int32)), (.int (0 : Int32)), (.int (0 : Int32))] (.int (0 : Int32)) := V61
      have Ex62 : Ext h0 h61 := extWr Ex60 W61 le52
      refine Rch.st st61 ?_
      show Rch p e below T61 (mkF m 93 #[.val (.int p1), .val (.int sel), .unset, .unset, .unset, .unset, .unset] [(.ref a50)]) _
      refine Rch.st (fun _ k => XS.dup X61.here hx rfl (hb hby at_93) rfl rfl k) ?_
      show Rch p e below T61 (mkF m 94 #[.val (.int p1), .val (.int sel), .unset, .unset, .unset, .unset, .unset] [(.ref a50), (.ref a50)]) _
      refine Rch.st (fun _ k => XS.iconst X61.here hx rfl (hb hby at_94)  k) ?_
      show Rch p e below T61 (mkF m 95 #[.val (.int p1), .val (.int sel), .unset, .unset, .unset, .unset, .unset] [(.int (5 : Int32)), (.ref a50), (.ref a50)]) _
      refine Rch.st (fun _ k => XS.bipush X61.here hx rfl (hb hby at_95)  k) ?_
      show Rch p e below T61 (mkF m 97 #[.val (.int p1), .val (.int sel), .unset, .unset, .unset, .unset, .unset] [(.int (102 : Int32)), (.int (5 : Int32)), (.ref a50), (.ref a50)]) _
      obtain ⟨T63, h63, L63, sl63, X63, e63, W63, V63, N63, st63⟩ := stCv X61 hx hZ e61 V61' N61 (Nat.le_trans Z0 le52) (j := (5 : Int32)) ⟨by decide, by decide⟩ 5 rfl (Nat.le_of_ble_eq_true rfl) (g := (mkF m 97 #[.val (.int p1), .val (.int sel), .unset, .unset, .unset, .unset, .unset] [(.int (102 : Int32)), (.int (5 : Int32)), (.ref a50), (.ref a50)])) rfl rfl (hb hby at_97)
      have V63' : Arv Z h63 a50 k50 .char (15 : Int32) [(.int (114 : Int32)), (.int (101 : Int32)), (.int (99 : Int32)), (.int (111 : Int32)), (.int (110 : Int32)), (.int (102 : Int32)), (.int (0 : Int32)), (.int (0 : Int32)), (.int (0 : Int32)), (.int (0 : Int32)), (.int (0 : Int32)), (.int (0 : Int32)), (.int (0 : Int32)), (.int (0 : Int32)), (.int (0 : Int32))] (.int (0 : Int32)) := V63
      have Ex64 : Ext h0 h63 := extWr Ex62 W63 le52
      refine Rch.st st63 ?_
      show Rch p e below T63 (mkF m 98 #[.val (.int p1), .val (.int sel), .unset, .unset, .unset, .unset, .unset] [(.ref a50)]) _
      refine Rch.st (fun _ k => XS.dup X63.here hx rfl (hb hby at_98) rfl rfl k) ?_
      show Rch p e below T63 (mkF m 99 #[.val (.int p1), .val (.int sel), .unset, .unset, .unset, .unset, .unset] [(.ref a50), (.ref a50)]) _
      refine Rch.st (fun _ k => XS.bipush X63.here hx rfl (hb hby at_99)  k) ?_
      show Rch p e below T63 (mkF m 101 #[.val (.int p1), .val (.int sel), .unset, .unset, .unset, .unset, .unset] [(.int (6 : Int32)), (.ref a50), (.ref a50)]) _
      refine Rch.st (fun _ k => XS.bipush X63.here hx rfl (hb hby at_101)  k) ?_
      show Rch p e below T63 (mkF m 103 #[.val (.int p1), .val (.int sel), .unset, .unset, .unset, .unset, .unset] [(.int (105 : Int32)), (.int (6 : Int32)), (.ref a50), (.ref a50)]) _
      obtain ⟨T65, h65, L65, sl65, X65, e65, W65, V65, N65, st65⟩ := stCv X63 hx hZ e63 V63' N63 (Nat.le_trans Z0 le52) (j := (6 : Int32)) ⟨by decide, by decide⟩ 6 rfl (Nat.le_of_ble_eq_true rfl) (g := (mkF m 103 #[.val (.int p1), .val (.int sel), .unset, .unset, .unset, .unset, .unset] [(.int (105 : Int32)), (.int (6 : Int32)), (.ref a50), (.ref a50)])) rfl rfl (hb hby at_103)
      have V65' : Arv Z h65 a50 k50 .char (15 : Int32) [(.int (114 : Int32)), (.int (101 : Int32)), (.int (99 : Int32)), (.int (111 : Int32)), (.int (110 : Int32)), (.int (102 : Int32)), (.int (105 : Int32)), (.int (0 : Int32)), (.int (0 : Int32)), (.int (0 : Int32)), (.int (0 : Int32)), (.int (0 : Int32)), (.int (0 : Int32)), (.int (0 : Int32)), (.int (0 : Int32))] (.int (0 : Int32)) := V65
      have Ex66 : Ext h0 h65 := extWr Ex64 W65 le52
      refine Rch.st st65 ?_
      show Rch p e below T65 (mkF m 104 #[.val (.int p1), .val (.int sel), .unset, .unset, .unset, .unset, .unset] [(.ref a50)]) _
      refine Rch.st (fun _ k => XS.dup X65.here hx rfl (hb hby at_104) rfl rfl k) ?_
      show Rch p e below T65 (mkF m 105 #[.val (.int p1), .val (.int sel), .unset, .unset, .unset, .unset, .unset] [(.ref a50), (.ref a50)]) _
      refine Rch.st (fun _ k => XS.bipush X65.here hx rfl (hb hby at_105)  k) ?_
      show Rch p e below T65 (mkF m 107 #[.val (.int p1), .val (.int sel), .unset, .unset, .unset, .unset, .unset] [(.int (7 : Int32)), (.ref a50), (.ref a50)]) _
      refine Rch.st (fun _ k => XS.bipush X65.here hx rfl (hb hby at_107)  k) ?_
      show Rch p e below T65 (mkF m 109 #[.val (.int p1), .val (.int sel), .unset, .unset, .unset, .unset, .unset] [(.int (103 : Int32)), (.int (7 : Int32)), (.ref a50), (.ref a50)]) _
      obtain ⟨T67, h67, L67, sl67, X67, e67, W67, V67, N67, st67⟩ := stCv X65 hx hZ e65 V65' N65 (Nat.le_trans Z0 le52) (j := (7 : Int32)) ⟨by decide, by decide⟩ 7 rfl (Nat.le_of_ble_eq_true rfl) (g := (mkF m 109 #[.val (.int p1), .val (.int sel), .unset, .unset, .unset, .unset, .unset] [(.int (103 : Int32)), (.int (7 : Int32)), (.ref a50), (.ref a50)])) rfl rfl (hb hby at_109)
      have V67' : Arv Z h67 a50 k50 .char (15 : Int32) [(.int (114 : Int32)), (.int (101 : Int32)), (.int (99 : Int32)), (.int (111 : Int32)), (.int (110 : Int32)), (.int (102 : Int32)), (.int (105 : Int32)), (.int (103 : Int32)), (.int (0 : Int32)), (.int (0 : Int32)), (.int (0 : Int32)), (.int (0 : Int32)), (.int (0 : Int32)), (.int (0 : Int32)), (.int (0 : Int32))] (.int (0 : Int32)) := V67
      have Ex68 : Ext h0 h67 := extWr Ex66 W67 le52
      refine Rch.st st67 ?_
      show Rch p e below T67 (mkF m 110 #[.val (.int p1), .val (.int sel), .unset, .unset, .unset, .unset, .unset] [(.ref a50)]) _
      refine Rch.st (fun _ k => XS.dup X67.here hx rfl (hb hby at_110) rfl rfl k) ?_
      show Rch p e below T67 (mkF m 111 #[.val (.int p1), .val (.int sel), .unset, .unset, .unset, .unset, .unset] [(.ref a50), (.ref a50)]) _
      refine Rch.st (fun _ k => XS.bipush X67.here hx rfl (hb hby at_111)  k) ?_
      show Rch p e below T67 (mkF m 113 #[.val (.int p1), .val (.int sel), .unset, .unset, .unset, .unset, .unset] [(.int (8 : Int32)), (.ref a50), (.ref a50)]) _
      refine Rch.st (fun _ k => XS.bipush X67.here hx rfl (hb hby at_113)  k) ?_
      show Rch p e below T67 (mkF m 115 #[.val (.int p1), .val (.int sel), .unset, .unset, .unset, .unset, .unset] [(.int (117 : Int32)), (.int (8 : Int32)), (.ref a50), (.ref a50)]) _
      obtain ⟨T69, h69, L69, sl69, X69, e69, W69, V69, N69, st69⟩ := stCv X67 hx hZ e67 V67' N67 (Nat.le_trans Z0 le52) (j := (8 : Int32)) ⟨by decide, by decide⟩ 8 rfl (Nat.le_of_ble_eq_true rfl) (g := (mkF m 115 #[.val (.int p1), .val (.int sel), .unset, .unset, .unset, .unset, .unset] [(.int (117 : Int32)), (.int (8 : Int32)), (.ref a50), (.ref a50)])) rfl rfl (hb hby at_115)
      have V69' : Arv Z h69 a50 k50 .char (15 : Int32) [(.int (114 : Int32)), (.int (101 : Int32)), (.int (99 : Int32)), (.int (111 : Int32)), (.int (110 : Int32)), (.int (102 : Int32)), (.int (105 : Int32)), (.int (103 : Int32)), (.int (117 : Int32)), (.int (0 : Int32)), (.int (0 : Int32)), (.int (0 : Int32)), (.int (0 : Int32)), (.int (0 : Int32)), (.int (0 : Int32))] (.int (0 : Int32)) := V69
      have Ex70 : Ext h0 h69 := extWr Ex68 W69 le52
      refine Rch.st st69 ?_
      show Rch p e below T69 (mkF m 116 #[.val (.int p1), .val (.int sel), .unset, .unset, .unset, .unset, .unset] [(.ref a50)]) _
      refine Rch.st (fun _ k => XS.dup X69.here hx rfl (hb hby at_116) rfl rfl k) ?_
      show Rch p e below T69 (mkF m 117 #[.val (.int p1), .val (.int sel), .unset, .unset, .unset, .unset, .unset] [(.ref a50), (.ref a50)]) _
      refine Rch.st (fun _ k => XS.bipush X69.here hx rfl (hb hby at_117)  k) ?_
      show Rch p e below T69 (mkF m 119 #[.val (.int p1), .val (.int sel), .unset, .unset, .unset, .unset, .unset] [(.int (9 : Int32)), (.ref a50), (.ref a50)]) _
      refine Rch.st (fun _ k => XS.bipush X69.here hx rfl (hb hby at_119)  k) ?_
      show Rch p e below T69 (mkF m 121 #[.val (.int p1), .val (.int sel), .unset, .unset, .unset, .unset, .unset] [(.int (114 : Int32)), (.int (9 : Int32)), (.ref a50), (.ref a50)]) _
      obtain ⟨T71, h71, L71, sl71, X71, e71, W71, V71, N71, st71⟩ := stCv X69 hx hZ e69 V69' N69 (Nat.le_trans Z0 le52) (j := (9 : Int32)) ⟨by decide, by decide⟩ 9 rfl (Nat.le_of_ble_eq_true rfl) (g := (mkF m 121 #[.val (.int p1), .val (.int sel), .unset, .unset, .unset, .unset, .unset] [(.int (114 : Int32)), (.int (9 : Int32)), (.ref a50), (.ref a50)])) rfl rfl (hb hby at_121)
      have V71' : Arv Z h71 a50 k50 .char (15 : Int32) [(.int (114 : Int32)), (.int (101 : Int32)), (.int (99 : Int32)), (.int (111 : Int32)), (.int (110 : Int32)), (.int (102 : Int32)), (.int (105 : Int32)), (.int (103 : Int32)), (.int (117 : Int32)), (.int (114 : Int32)), (.int (0 : Int32)), (.int (0 : Int32)), (.int (0 : Int32)), (.int (0 : Int32)), (.int (0 : Int32))] (.int (0 : Int32)) := V71
      have Ex72 : Ext h0 h71 := extWr Ex70 W71 le52
      refine Rch.st st71 ?_
      show Rch p e below T71 (mkF m 122 #[.val (.int p1), .val (.int sel), .unset, .unset, .unset, .unset, .unset] [(.ref a50)]) _
      refine Rch.st (fun _ k => XS.dup X71.here hx rfl (hb hby at_122) rfl rfl k) ?_
      show Rch p e below T71 (mkF m 123 #[.val (.int p1), .val (.int sel), .unset, .unset, .unset, .unset, .unset] [(.ref a50), (.ref a50)]) _
      refine Rch.st (fun _ k => XS.bipush X71.here hx rfl (hb hby at_123)  k) ?_
      show Rch p e below T71 (mkF m 125 #[.val (.int p1), .val (.int sel), .unset, .unset, .unset, .unset, .unset] [(.int (10 : Int32)), (.ref a50), (.ref a50)]) _
      refine Rch.st (fun _ k => XS.bipush X71.here hx rfl (hb hby at_125)  k) ?_
      show Rch p e below T71 (mkF m 127 #[.val (.int p1), .val (.int sel), .unset, .unset, .unset, .unset, .unset] [(.int (97 : Int32)), (.int (10 : Int32)), (.ref a50), (.ref a50)]) _
      obtain ⟨T73, h73, L73, sl73, X73, e73, W73, V73, N73, st73⟩ := stCv X71 hx hZ e71 V71' N71 (Nat.le_trans Z0 le52) (j := (10 : Int32)) ⟨by decide, by decide⟩ 10 rfl (Nat.le_of_ble_eq_true rfl) (g := (mkF m 127 #[.val (.int p1), .val (.int sel), .unset, .unset, .unset, .unset, .unset] [(.int (97 : Int32)), (.int (10 : Int32)), (.ref a50), (.ref a50)])) rfl rfl (hb hby at_127)
      have V73' : Arv Z h73 a50 k50 .char (15 : Int32) [(.int (114 : Int32)), (.int (101 : Int32)), (.int (99 : Int32)), (.int (111 : Int32)), (.int (110 : Int32)), (.int (102 : Int32)), (.int (105 : Int32)), (.int (103 : Int32)), (.int (117 : Int32)), (.int (114 : Int32)), (.int (97 : Int32)), (.int (0 : Int32)), (.int (0 : Int32)), (.int (0 : Int32)), (.int (0 : Int32))] (.int (0 : Int32)) := V73
      have Ex74 : Ext h0 h73 := extWr Ex72 W73 le52
      refine Rch.st st73 ?_
      show Rch p e below T73 (mkF m 128 #[.val (.int p1), .val (.int sel), .unset, .unset, .unset, .unset, .unset] [(.ref a50)]) _
      refine Rch.st (fun _ k => XS.dup X73.here hx rfl (hb hby at_128) rfl rfl k) ?_
      show Rch p e below T73 (mkF m 129 #[.val (.int p1), .val (.int sel), .unset, .unset, .unset, .unset, .unset] [(.ref a50), (.ref a50)]) _
      refine Rch.st (fun _ k => XS.bipush X73.here hx rfl (hb hby at_129)  k) ?_
      show Rch p e below T73 (mkF m 131 #[.val (.int p1), .val (.int sel), .unset, .unset, .unset, .unset, .unset] [(.int (11 : Int32)), (.ref a50), (.ref a50)]) _
      refine Rch.st (fun _ k => XS.bipush X73.here hx rfl (hb hby at_131)  k) ?_
      show Rch p e below T73 (mkF m 133 #[.val (.int p1), .val (.int sel), .unset, .unset, .unset, .unset, .unset] [(.int (116 : Int32)), (.int (11 : Int32)), (.ref a50), (.ref a50)]) _
      obtain ⟨T75, h75, L75, sl75, X75, e75, W75, V75, N75, st75⟩ := stCv X73 hx hZ e73 V73' N73 (Nat.le_trans Z0 le52) (j := (11 : Int32)) ⟨by decide, by decide⟩ 11 rfl (Nat.le_of_ble_eq_true rfl) (g := (mkF m 133 #[.val (.int p1), .val (.int sel), .unset, .unset, .unset, .unset, .unset] [(.int (116 : Int32)), (.int (11 : Int32)), (.ref a50), (.ref a50)])) rfl rfl (hb hby at_133)
      have V75' : Arv Z h75 a50 k50 .char (15 : Int32) [(.int (114 : Int32)), (.int (101 : Int32)), (.int (99 : Int32)), (.int (111 : Int32)), (.int (110 : Int32)), (.int (102 : Int32)), (.int (105 : Int32)), (.int (103 : Int32)), (.int (117 : Int32)), (.int (114 : Int32)), (.int (97 : Int32)), (.int (116 : Int32)), (.int (0 : Int32)), (.int (0 : Int32)), (.int (0 : Int32))] (.int (0 : Int32)) := V75
      have Ex76 : Ext h0 h75 := extWr Ex74 W75 le52
      refine Rch.st st75 ?_
      show Rch p e below T75 (mkF m 134 #[.val (.int p1), .val (.int sel), .unset, .unset, .unset, .unset, .unset] [(.ref a50)]) _
      refine Rch.st (fun _ k => XS.dup X75.here hx rfl (hb hby at_134) rfl rfl k) ?_
      show Rch p e below T75 (mkF m 135 #[.val (.int p1), .val (.int sel), .unset, .unset, .unset, .unset, .unset] [(.ref a50), (.ref a50)]) _
      refine Rch.st (fun _ k => XS.bipush X75.here hx rfl (hb hby at_135)  k) ?_
      show Rch p e below T75 (mkF m 137 #[.val (.int p1), .val (.int sel), .unset, .unset, .unset, .unset, .unset] [(.int (12 : Int32)), (.ref a50), (.ref a50)]) _
      refine Rch.st (fun _ k => XS.bipush X75.here hx rfl (hb hby at_137)  k) ?_
      show Rch p e below T75 (mkF m 139 #[.val (.int p1), .val (.int sel), .unset, .unset, .unset, .unset, .unset] [(.int (105 : Int32)), (.int (12 : Int32)), (.ref a50), (.ref a50)]) _
      obtain ⟨T77, h77, L77, sl77, X77, e77, W77, V77, N77, st77⟩ := stCv X75 hx hZ e75 V75' N75 (Nat.le_trans Z0 le52) (j := (12 : Int32)) ⟨by decide, by decide⟩ 12 rfl (Nat.le_of_ble_eq_true rfl) (g := (mkF m 139 #[.val (.int p1), .val (.int sel), .unset, .unset, .unset, .unset, .unset] [(.int (105 : Int32)), (.int (12 : Int32)), (.ref a50), (.ref a50)])) rfl rfl (hb hby at_139)
      have V77' : Arv Z h77 a50 k50 .char (15 : Int32) [(.int (114 : Int32)), (.int (101 : Int32)), (.int (99 : Int32)), (.int (111 : Int32)), (.int (110 : Int32)), (.int (102 : Int32)), (.int (105 : Int32)), (.int (103 : Int32)), (.int (117 : Int32)), (.int (114 : Int32)), (.int (97 : Int32)), (.int (116 : Int32)), (.int (105 : Int32)), (.int (0 : Int32)), (.int (0 : Int32))] (.int (0 : Int32)) := V77
      have Ex78 : Ext h0 h77 := extWr Ex76 W77 le52
      refine Rch.st st77 ?_
      show Rch p e below T77 (mkF m 140 #[.val (.int p1), .val (.int sel), .unset, .unset, .unset, .unset, .unset] [(.ref a50)]) _
      refine Rch.st (fun _ k => XS.dup X77.here hx rfl (hb hby at_140) rfl rfl k) ?_
      show Rch p e below T77 (mkF m 141 #[.val (.int p1), .val (.int sel), .unset, .unset, .unset, .unset, .unset] [(.ref a50), (.ref a50)]) _
      refine Rch.st (fun _ k => XS.bipush X77.here hx rfl (hb hby at_141)  k) ?_
      show Rch p e below T77 (mkF m 143 #[.val (.int p1), .val (.int sel), .unset, .unset, .unset, .unset, .unset] [(.int (13 : Int32)), (.ref a50), (.ref a50)]) _
      refine Rch.st (fun _ k => XS.bipush X77.here hx rfl (hb hby at_143)  k) ?_
      show Rch p e below T77 (mkF m 145 #[.val (.int p1), .val (.int sel), .unset, .unset, .unset, .unset, .unset] [(.int (111 : Int32)), (.int (13 : Int32)), (.ref a50), (.ref a50)]) _
      obtain ⟨T79, h79, L79, sl79, X79, e79, W79, V79, N79, st79⟩ := stCv X77 hx hZ e77 V77' N77 (Nat.le_trans Z0 le52) (j := (13 : Int32)) ⟨by decide, by decide⟩ 13 rfl (Nat.le_of_ble_eq_true rfl) (g := (mkF m 145 #[.val (.int p1), .val (.int sel), .unset, .unset, .unset, .unset, .unset] [(.int (111 : Int32)), (.int (13 : Int32)), (.ref a50), (.ref a50)])) rfl rfl (hb hby at_145)
      have V79' : Arv Z h79 a50 k50 .char (15 : Int32) [(.int (114 : Int32)), (.int (101 : Int32)), (.int (99 : Int32)), (.int (111 : Int32)), (.int (110 : Int32)), (.int (102 : Int32)), (.int (105 : Int32)), (.int (103 : Int32)), (.int (117 : Int32)), (.int (114 : Int32)), (.int (97 : Int32)), (.int (116 : Int32)), (.int (105 : Int32)), (.int (111 : Int32)), (.int (0 : Int32))] (.int (0 : Int32)) := V79
      have Ex80 : Ext h0 h79 := extWr Ex78 W79 le52
      refine Rch.st st79 ?_
      show Rch p e below T79 (mkF m 146 #[.val (.int p1), .val (.int sel), .unset, .unset, .unset, .unset, .unset] [(.ref a50)]) _
      refine Rch.st (fun _ k => XS.dup X79.here hx rfl (hb hby at_146) rfl rfl k) ?_
      show Rch p e below T79 (mkF m 147 #[.val (.int p1), .val (.int sel), .unset, .unset, .unset, .unset, .unset] [(.ref a50), (.ref a50)]) _
      refine Rch.st (fun _ k => XS.bipush X79.here hx rfl (hb hby at_147)  k) ?_
      show Rch p e below T79 (mkF m 149 #[.val (.int p1), .val (.int sel), .unset, .unset, .unset, .unset, .unset] [(.int (14 : Int32)), (.ref a50), (.ref a50)]) _
      refine Rch.st (fun _ k => XS.bipush X79.here hx rfl (hb hby at_149)  k) ?_
      show Rch p e below T79 (mkF m 151 #[.val (.int p1), .val (.int sel), .unset, .unset, .unset, .unset, .unset] [(.int (110 : Int32)), (.int (14 : Int32)), (.ref a50), (.ref a50)]) _
      obtain ⟨T81, h81, L81, sl81, X81, e81, W81, V81, N81, st81⟩ := stCv X79 hx hZ e79 V79' N79 (Nat.le_trans Z0 le52) (j := (14 : Int32)) ⟨by decide, by decide⟩ 14 rfl (Nat.le_of_ble_eq_true rfl) (g := (mkF m 151 #[.val (.int p1), .val (.int sel), .unset, .unset, .unset, .unset, .unset] [(.int (110 : Int32)), (.int (14 : Int32)), (.ref a50), (.ref a50)])) rfl rfl (hb hby at_151)
      have V81' : Arv Z h81 a50 k50 .char (15 : Int32) [(.int (114 : Int32)), (.int (101 : Int32)), (.int (99 : Int32)), (.int (111 : Int32)), (.int (110 : Int32)), (.int (102 : Int32)), (.int (105 : Int32)), (.int (103 : Int32)), (.int (117 : Int32)), (.int (114 : Int32)), (.int (97 : Int32)), (.int (116 : Int32)), (.int (105 : Int32)), (.int (111 : Int32)), (.int (110 : Int32))] (.int (0 : Int32)) := V81
      have Ex82 : Ext h0 h81 := extWr Ex80 W81 le52
      refine Rch.st st81 ?_
      show Rch p e below T81 (mkF m 152 #[.val (.int p1), .val (.int sel), .unset, .unset, .unset, .unset, .unset] [(.ref a50)]) _
      refine Rch.st (fun _ k => XS.astoreN X81.here hx rfl (hb hby at_152) rfl rfl (l' := #[.val (.int p1), .val (.int sel), .val (.ref a50), .unset, .unset, .unset, .unset]) rfl k) ?_
      show Rch p e below T81 (mkF m 153 #[.val (.int p1), .val (.int sel), .val (.ref a50), .unset, .unset, .unset, .unset] []) _
      obtain ⟨T83, X83, e83, st83⟩ := getS2 X81 hx hZ hown (host := "") (Or.inl (wq hw 72 rfl)) Via.refl e81 (B.ext Ex82).2.2.2.2.1 (g := (mkF m 153 #[.val (.int p1), .val (.int sel), .val (.ref a50), .unset, .unset, .unset, .unset] [])) rfl (hb hby at_153)
      refine Rch.st st83 ?_
      show Rch p e below T83 (mkF m 156 #[.val (.int p1), .val (.int sel), .val (.ref a50), .unset, .unset, .unset, .unset] [(.ref w1)]) _
      refine Rch.st (fun _ k => XS.astoreN X83.here hx rfl (hb hby at_156) rfl rfl (l' := #[.val (.int p1), .val (.int sel), .val (.ref a50), .val (.ref w1), .unset, .unset, .unset]) rfl k) ?_
      show Rch p e below T83 (mkF m 157 #[.val (.int p1), .val (.int sel), .val (.ref a50), .val (.ref w1), .unset, .unset, .unset] []) _
      refine Rch.st (fun _ k => XS.goto X83.here hx rfl (pc0 := 157) (pc' := 223) rfl (hb hby at_157) (by decide) (by decide) k) ?_
      show Rch p e below T83 (mkF m 223 #[.val (.int p1), .val (.int sel), .val (.ref a50), .val (.ref w1), .unset, .unset, .unset] []) _
      obtain ⟨T84, h84, X84, e84, E84, A84, D84, -, st84⟩ := newO X83 hx hZ hown (wq hw 5 rfl) (wq hw 6 rfl) (wq hw 7 rfl) e83 (g := (mkF m 223 #[.val (.int p1), .val (.int sel), .val (.ref a50), .val (.ref w1), .unset, .unset, .unset] [])) rfl (hb hby at_223) (by decide) (by decide)
      obtain ⟨a84, g84⟩ : ∃ z, z = h81.size := ⟨_, rfl⟩
      rw [← g84] at A84 D84 st84
      have Ex85 : Ext h0 h84 := Ex82.tr E84
      have Ex86 : Ext h81 h84 := E84
      have le87 : h0.size ≤ a84 := Nat.le_trans Ex82.1 (Nat.le_of_eq g84.symm)
      have le88 : h81.size ≤ a84 := Nat.le_of_eq g84.symm
      refine Rch.st st84 ?_
      show Rch p e below T84 (mkF m 226 #[.val (.int p1), .val (.int sel), .val (.ref a50), .val (.ref w1), .unset, .unset, .unset] [(.ref a84)]) _
      refine Rch.st (fun _ k => XS.dup X84.here hx rfl (hb hby at_226) rfl rfl k) ?_
      show Rch p e below T84 (mkF m 227 #[.val (.int p1), .val (.int sel), .val (.ref a50), .val (.ref w1), .unset, .unset, .unset] [(.ref a84), (.ref a84)]) _
      refine Rch.st (fun _ k => XS.aloadN X84.here hx rfl (hb hby at_227) rfl rfl k) ?_
      show Rch p e below T84 (mkF m 228 #[.val (.int p1), .val (.int sel), .val (.ref a50), .val (.ref w1), .unset, .unset, .unset] [(.ref a50), (.ref a84), (.ref a84)]) _
      obtain ⟨_, _, ⟨T89, L89, k89, n89⟩, -, X89, ⟨Lc89, hQ89, l89, y89, z89⟩, st89⟩ := X84.specialBack hx (y := (⟨"java/lang/String", "<init>", "([C)V"⟩ : MethodName)) rfl hown (mvT hZ (wq hw 8 rfl)) (mvT hZ (wq hw 9 rfl)) (mvT hZ (wq hw 10 rfl)) (by decide) (backS (W := 1) hZ hw (cs := [(114 : Int32), (101 : Int32), (99 : Int32), (111 : Int32), (110 : Int32), (102 : Int32), (105 : Int32), (103 : Int32), (117 : Int32), (114 : Int32), (97 : Int32), (116 : Int32), (105 : Int32), (111 : Int32), (110 : Int32)]) (n := 15) (Nat.le_trans Z0 le87) (Nat.le_trans Z0 Ex85.1) A84 ((D84 (Or.inr (wq hw 33 rfl)) (ty := (.array .byte)) (by decide)).ext Ext.rf) ((D84 (Or.inr (wq hw 31 rfl)) (ty := .byte) (by decide)).ext Ext.rf) (V81'.ext Ex86) (B.ext Ex85).2.2.2.2.2.2.2.2.2.2.2.2.1 rfl rfl (by decide) (by decide) (by decide) (by decide) (by decide)) (g := (mkF m 228 #[.val (.int p1), .val (.int sel), .val (.ref a50), .val (.ref w1), .unset, .unset, .unset] [(.ref a50), (.ref a84), (.ref a84)])) rfl (by rw [hml]; rfl) (Steps.refl _) (a := a84) (argsL := [(.ref a50)]) (rest := [(.ref a84)]) (lenOf pd_2 rfl) rfl (by show 2 * 0 + _ ≤ _; exact Nat.le_of_eq rfl) (hb hby at_228) (fun _ _ => ⟨rfl, e84, (by decide : 2 + 1 ≤ _), (by decide : 19 + 15 ≤ _)⟩)
      dsimp only [Pt.U, Pt.locs, Pt.cells, Pt.slots] at X89 l89 y89 z89 st89 hQ89
      subst l89 y89 z89
      obtain ⟨rfl, Nq89, K89, Q89⟩ := hQ89
      have N89 := Fr.app N81 Nq89
      have Ex90 : Ext h0 T89.heap := extKeep1 Ex85 K89 le87
      have Ex91 : Ext h81 T89.heap := extKeep1 Ex86 K89 le88
      refine Rch.go st89 ?_
      show Rch p e below T89 (mkF m 231 #[.val (.int p1), .val (.int sel), .val (.ref a50), .val (.ref w1), .unset, .unset, .unset] [(.ref a84)]) _
      refine Rch.st (fun _ k => XS.astore X89.here hx rfl (hb hby at_231) rfl rfl (l' := #[.val (.int p1), .val (.int sel), .val (.ref a50), .val (.ref w1), .val (.ref a84), .unset, .unset]) rfl k) ?_
      show Rch p e below T89 (mkF m 233 #[.val (.int p1), .val (.int sel), .val (.ref a50), .val (.ref w1), .val (.ref a84), .unset, .unset] []) _
      refine Rch.st (fun _ k => XS.aload X89.here hx rfl (hb hby at_233) rfl rfl k) ?_
      show Rch p e below T89 (mkF m 235 #[.val (.int p1), .val (.int sel), .val (.ref a50), .val (.ref w1), .val (.ref a84), .unset, .unset] [(.ref a84)]) _
      obtain ⟨_, _, ⟨T92, L92, k92, n92⟩, -, X92, ⟨Lc92, hQ92, l92, y92, z92⟩, st92⟩ := Jvm.LawKit.callS X89 hx (y := (⟨"com/example/driftmark/driftmark/TradeKind", "parse", "(Ljava/lang/String;)Lcom/example/driftmark/driftmark/TradeKind;"⟩ : MethodName)) hown (mvT hZ (wq hw 34 rfl)) (mvT hZ (wq hw 35 rfl)) (mvT hZ (wq hw 3 rfl)) (mvT hZ (wq hw 36 rfl)) (by decide) (backOf (W := 0) (rm_parse l Z a0 hw [] a84 [(114 : Int32), (101 : Int32), (99 : Int32), (111 : Int32), (110 : Int32), (102 : Int32), (105 : Int32), (103 : Int32), (117 : Int32), (114 : Int32), (97 : Int32), (116 : Int32), (105 : Int32), (111 : Int32), (110 : Int32)] va w0 w1 w2 c0 c1 c2 kA T89.heap n0 (Nat.le_trans Z0 Ex90.1) Q89 (Or.inr (Or.inl rfl)) (B.ext Ex90)) hZ (wq hw 36 rfl) (wq hw 3 rfl) (by decide) (by decide)) (g := (mkF m 235 #[.val (.int p1), .val (.int sel), .val (.ref a50), .val (.ref w1), .val (.ref a84), .unset, .unset] [(.ref a84)])) rfl (by rw [hml]; rfl) (argsL := [(.ref a84)]) (rest := []) (lenOf pd_3 rfl) rfl (by show 2 * 0 + _ ≤ _; exact Nat.le_of_eq rfl) (hb hby at_235) (fun _ _ => ⟨rfl, rfl, (by decide : 3 + 1 ≤ _), (by decide : 34 + 3 ≤ _)⟩)
      dsimp only [Pt.U, Pt.locs, Pt.cells, Pt.slots] at X92 l92 y92 z92 st92 hQ92
      subst l92 y92 z92
      obtain ⟨a92, rfl, Nq92, E92, i0_92, i1_92, i2_92⟩ := hQ92
      have N92 := Fr.app N89 Nq92
      have Ex93 : Ext h0 T92.heap := Ex90.tr E92
      have Ex94 : Ext h81 T92.heap := Ex91.tr E92
      have Ex95 : Ext T89.heap T92.heap := E92
      obtain rfl : w1 = a92 := (i1_92 rfl).symm
      refine Rch.st st92 ?_
      show Rch p e below T92 (mkF m 238 #[.val (.int p1), .val (.int sel), .val (.ref a50), .val (.ref w1), .val (.ref a84), .unset, .unset] [(.ref w1)]) _
      refine Rch.st (fun _ k => XS.astore X92.here hx rfl (hb hby at_238) rfl rfl (l' := #[.val (.int p1), .val (.int sel), .val (.ref a50), .val (.ref w1), .val (.ref a84), .val (.ref w1), .unset]) rfl k) ?_
      show Rch p e below T92 (mkF m 240 #[.val (.int p1), .val (.int sel), .val (.ref a50), .val (.ref w1), .val (.ref a84), .val (.ref w1), .unset] []) _
      refine Rch.st (fun _ k => XS.aloadN X92.here hx rfl (hb hby at_240) rfl rfl k) ?_
      show Rch p e below T92 (mkF m 241 #[.val (.int p1), .val (.int sel), .val (.ref a50), .val (.ref w1), .val (.ref a84), .val (.ref w1), .unset] [(.ref w1)]) _
      obtain ⟨cq96, kq96, q96a, q96b, q96c⟩ := isOf hZ rfl ((B.ext Ex93).2.2.2.2.2.2.2.2.2.2.2.2.2.2.1)
      obtain ⟨_, _, ⟨T96, L96, k96, n96⟩, -, X96, ⟨Lc96, hQ96, l96, y96, z96⟩, st96⟩ := X92.virtualBack hx (y := (⟨"com/example/driftmark/driftmark/TradeKind", "code", "()Ljava/lang/String;"⟩ : MethodName)) (z := (⟨"com/example/driftmark/driftmark/TradeKind", "code", "()Ljava/lang/String;"⟩ : MethodName)) hown (mvT hZ (wq hw 66 rfl)) (mvT hZ (wq hw 67 rfl)) (notFace_of_selects (args := #[]) (mvT hZ (wq hw 69 rfl))) (mvT hZ (wq hw 69 rfl)) (mvT hZ (wq hw 68 rfl)) (by decide) (backOf (W := 0) (rm_code l Z a0 hw [] w1 c1 T92.heap n0 (Nat.le_trans Z0 Ex93.1) ((B.ext Ex93).2.2.2.2.2.2.2.1)) hZ (wq hw 70 rfl) (wq hw 3 rfl) (by decide) (by decide)) q96a q96c (g := (mkF m 241 #[.val (.int p1), .val (.int sel), .val (.ref a50), .val (.ref w1), .val (.ref a84), .val (.ref w1), .unset] [(.ref w1)])) rfl (by rw [hml]; rfl) (Steps.refl _) (argsL := []) (rest := []) (lenOf pd_4 rfl) rfl (by show 2 * 0 + _ ≤ _; exact Nat.le_of_eq rfl) (hb hby at_241) (fun _ _ => ⟨rfl, rfl, (by decide : 4 + 0 ≤ _), (by decide : 37 + 0 ≤ _)⟩)
      dsimp only [Pt.U, Pt.locs, Pt.cells, Pt.slots] at X96 l96 y96 z96 st96 hQ96
      subst l96 y96 z96
      obtain ⟨rfl, Nq96, e96⟩ := hQ96
      have N96 := Fr.app N92 Nq96
      refine Rch.go st96 ?_
      show Rch p e below T96 (mkF m 244 #[.val (.int p1), .val (.int sel), .val (.ref a50), .val (.ref w1), .val (.ref a84), .val (.ref w1), .unset] [(.ref c1)]) _
      obtain ⟨_, _, ⟨T97, L97, k97, n97⟩, -, X97, ⟨Lc97, hQ97, l97, y97, z97⟩, st97⟩ := Jvm.LawKit.callS X96 hx (y := (⟨"com/example/driftmark/driftmark/TradeKind", "parse", "(Ljava/lang/String;)Lcom/example/driftmark/driftmark/TradeKind;"⟩ : MethodName)) hown (mvT hZ (wq hw 34 rfl)) (mvT hZ (wq hw 35 rfl)) (mvT hZ (wq hw 3 rfl)) (mvT hZ (wq hw 36 rfl)) (by decide) (backOf (W := 0) (rm_parse l Z a0 hw [] c1 ([114, 101, 99, 111, 110, 102, 105, 103, 117, 114, 97, 116, 105, 111, 110] : List Int32) va w0 w1 w2 c0 c1 c2 kA T92.heap n0 (Nat.le_trans Z0 Ex93.1) ((B.ext Ex93).2.2.2.2.2.2.2.2.2.2.1) (Or.inr (Or.inl rfl)) (B.ext Ex93)) hZ (wq hw 36 rfl) (wq hw 3 rfl) (by decide) (by decide)) (g := (mkF m 244 #[.val (.int p1), .val (.int sel), .val (.ref a50), .val (.ref w1), .val (.ref a84), .val (.ref w1), .unset] [(.ref c1)])) rfl (by rw [hml]; rfl) (argsL := [(.ref c1)]) (rest := []) (lenOf pd_3 rfl) rfl (by show 2 * 0 + _ ≤ _; exact Nat.le_of_eq rfl) (hb hby at_244) (fun _ _ => ⟨rfl, e96, (by decide : 4 + 1 ≤ _), (by decide : 37 + 3 ≤ _)⟩)
      dsimp only [Pt.U, Pt.locs, Pt.cells, Pt.slots] at X97 l97 y97 z97 st97 hQ97
      subst l97 y97 z97
      obtain ⟨a97, rfl, Nq97, E97, i0_97, i1_97, i2_97⟩ := hQ97
      have N97 := Fr.app N96 Nq97
      have Ex98 : Ext h0 T97.heap := Ex93.tr E97
      have Ex99 : Ext h81 T97.heap := Ex94.tr E97
      have Ex100 : Ext T89.heap T97.heap := Ex95.tr E97
      have Ex101 : Ext T92.heap T97.heap := E97
      obtain rfl : w1 = a97 := (i1_97 rfl).symm
      refine Rch.st st97 ?_
      show Rch p e below T97 (mkF m 247 #[.val (.int p1), .val (.int sel), .val (.ref a50), .val (.ref w1), .val (.ref a84), .val (.ref w1), .unset] [(.ref w1)]) _
      refine Rch.st (fun _ k => XS.astore X97.here hx rfl (hb hby at_247) rfl rfl (l' := #[.val (.int p1), .val (.int sel), .val (.ref a50), .val (.ref w1), .val (.ref a84), .val (.ref w1), .val (.ref w1)]) rfl k) ?_
      show Rch p e below T97 (mkF m 249 #[.val (.int p1), .val (.int sel), .val (.ref a50), .val (.ref w1), .val (.ref a84), .val (.ref w1), .val (.ref w1)] []) _
      refine Rch.st (fun _ k => XS.aload X97.here hx rfl (hb hby at_249) rfl rfl k) ?_
      show Rch p e below T97 (mkF m 251 #[.val (.int p1), .val (.int sel), .val (.ref a50), .val (.ref w1), .val (.ref a84), .val (.ref w1), .val (.ref w1)] [(.ref w1)]) _
      refine Rch.st (fun _ k => XS.aloadN X97.here hx rfl (hb hby at_251) rfl rfl k) ?_
      show Rch p e below T97 (mkF m 252 #[.val (.int p1), .val (.int sel), .val (.ref a50), .val (.ref w1), .val (.ref a84), .val (.ref w1), .val (.ref w1)] [(.ref w1), (.ref w1)]) _
      refine Rch.st (fun _ k => XT.acmpNo X97.here hx rfl (hb hby at_252) rfl rfl rfl (acN _) k) ?_
      show Rch p e below T97 (mkF m 255 #[.val (.int p1), .val (.int sel), .val (.ref a50), .val (.ref w1), .val (.ref a84), .val (.ref w1), .val (.ref w1)] []) _
      refine Rch.st (fun _ k => XS.aload X97.here hx rfl (hb hby at_255) rfl rfl k) ?_
      show Rch p e below T97 (mkF m 257 #[.val (.int p1), .val (.int sel), .val (.ref a50), .val (.ref w1), .val (.ref a84), .val (.ref w1), .val (.ref w1)] [(.ref w1)]) _
      refine Rch.st (fun _ k => XS.aloadN X97.here hx rfl (hb hby at_257) rfl rfl k) ?_
      show Rch p e below T97 (mkF m 258 #[.val (.int p1), .val (.int sel), .val (.ref a50), .val (.ref w1), .val (.ref a84), .val (.ref w1), .val (.ref w1)] [(.ref w1), (.ref w1)]) _
      refine Rch.st (fun _ k => XT.acmpNo X97.here hx rfl (hb hby at_258) rfl rfl rfl (acN _) k) ?_
      show Rch p e below T97 (mkF m 261 #[.val (.int p1), .val (.int sel), .val (.ref a50), .val (.ref w1), .val (.ref a84), .val (.ref w1), .val (.ref w1)] []) _
      refine Rch.st (fun _ k => XS.iconst X97.here hx rfl (hb hby at_261)  k) ?_
      show Rch p e below T97 (mkF m 262 #[.val (.int p1), .val (.int sel), .val (.ref a50), .val (.ref w1), .val (.ref a84), .val (.ref w1), .val (.ref w1)] [(.int (1 : Int32))]) _
      refine Rch.st (fun _ k => XS.goto X97.here hx rfl (pc0 := 262) (pc' := 266) rfl (hb hby at_262) (by decide) (by decide) k) ?_
      show Rch p e below T97 (mkF m 266 #[.val (.int p1), .val (.int sel), .val (.ref a50), .val (.ref w1), .val (.ref a84), .val (.ref w1), .val (.ref w1)] [(.int (1 : Int32))]) _
      exact Rch.fin (Q := Q_law Z p1 va w0 w1 w2 c0 c1 c2 kA h0 n0) X97 (v := some (.int (1 : Int32))) (fun h => by rw [Bd.returns] at h; cases h) (BodyLoose.notSynchronized Bd) (fun fs hr => retN X97 hx (t := .boolean) Bd.returns (by simp) (hb hby at_266) hr) ⟨rfl, N97⟩ (by decide) (by decide)
    · skip
      refine Rch.st (fun _ k => XS.icmpYes X0.here hx rfl (pc0 := 61) (pc' := 160) rfl (hb hby at_61) rfl (feq hs1).2 (by decide) (by decide) k) ?_
      show Rch p e below s₁ (mkF m 160 #[.val (.int p1), .val (.int sel), .unset, .unset, .unset, .unset, .unset] []) _
      refine Rch.st (fun _ k => XS.bipush X0.here hx rfl (hb hby at_160)  k) ?_
      show Rch p e below s₁ (mkF m 162 #[.val (.int p1), .val (.int sel), .unset, .unset, .unset, .unset, .unset] [(.int (10 : Int32))]) _
      obtain ⟨T102, h102, k102, X102, e102, E102, A102, st102⟩ := newP X0 hx hZ (wq hw 1 rfl) e0 (g := (mkF m 162 #[.val (.int p1), .val (.int sel), .unset, .unset, .unset, .unset, .unset] [(.int (10 : Int32))])) rfl (hb hby at_162) rfl (by decide : ¬ ((10 : Int32) < (0 : Int32))) (cap := 10) (by decide : ((10 : Int32)).toNatClampNeg ≤ 10) (by decide) (by decide) (by decide)
      obtain ⟨a102, g102⟩ : ∃ z, z = h0.size := ⟨_, rfl⟩
      rw [← g102] at A102 st102
      have Ex103 : Ext h0 h102 := E102
      have le104 : h0.size ≤ a102 := Nat.le_of_eq g102.symm
      refine Rch.st st102 ?_
      show Rch p e below T102 (mkF m 164 #[.val (.int p1), .val (.int sel), .unset, .unset, .unset, .unset, .unset] [(.ref a102)]) _
      have V102 : Arv Z h102 a102 k102 .char (10 : Int32) [(.int (0 : Int32)), (.int (0 : Int32)), (.int (0 : Int32)), (.int (0 : Int32)), (.int (0 : Int32)), (.int (0 : Int32)), (.int (0 : Int32)), (.int (0 : Int32)), (.int (0 : Int32)), (.int (0 : Int32))] (.int (0 : Int32)) := (Arv.new A102 (by decide : ¬ ((10 : Int32) < (0 : Int32)))).pad (pad_rep [] (.int (0 : Int32)) 10)
      refine Rch.st (fun _ k => XS.dup X102.here hx rfl (hb hby at_164) rfl rfl k) ?_
      show Rch p e below T102 (mkF m 165 #[.val (.int p1), .val (.int sel), .unset, .unset, .unset, .unset, .unset] [(.ref a102), (.ref a102)]) _
      refine Rch.st (fun _ k => XS.iconst X102.here hx rfl (hb hby at_165)  k) ?_
      show Rch p e below T102 (mkF m 166 #[.val (.int p1), .val (.int sel), .unset, .unset, .unset, .unset, .unset] [(.int (0 : Int32)), (.ref a102), (.ref a102)]) _
      refine Rch.st (fun _ k => XS.bipush X102.here hx rfl (hb hby at_166)  k) ?_
      show Rch p e below T102 (mkF m 168 #[.val (.int p1), .val (.int sel), .unset, .unset, .unset, .unset, .unset] [(.int (97 : Int32)), (.int (0 : Int32)), (.ref a102), (.ref a102)]) _
      obtain ⟨T105, h105, L105, sl105, X105, e105, W105, V105, N105, st105⟩ := stCv X102 hx hZ e102 V102 N0 (Nat.le_trans Z0 le104) (j := (0 : Int32)) ⟨by decide, by decide⟩ 0 rfl (Nat.le_of_ble_eq_true rfl) (g := (mkF m 168 #[.val (.int p1), .val (.int sel), .unset, .unset, .unset, .unset, .unset] [(.int (97 : Int32)), (.int (0 : Int32)), (.ref a102), (.ref a102)])) rfl rfl (hb hby at_168)
      have V105' : Arv Z h105 a102 k102 .char (10 : Int32) [(.int (97 : Int32)), (.int (0 : Int32)), (.int (0 : Int32)), (.int (0 : Int32)), (.int (0 : Int32)), (.int (0 : Int32)), (.int (0 : Int32)), (.int (0 : Int32)), (.int (0 : Int32)), (.int (0 : Int32))] (.int (0 : Int32)) := V105
      have Ex106 : Ext h0 h105 := extWr Ex103 W105 le104
      refine Rch.st st105 ?_
      show Rch p e below T105 (mkF m 169 #[.val (.int p1), .val (.int sel), .unset, .unset, .unset, .unset, .unset] [(.ref a102)]) _
      refine Rch.st (fun _ k => XS.dup X105.here hx rfl (hb hby at_169) rfl rfl k) ?_
      show Rch p e below T105 (mkF m 170 #[.val (.int p1), .val (.int sel), .unset, .unset, .unset, .unset, .unset] [(.ref a102), (.ref a102)]) _
      refine Rch.st (fun _ k => XS.iconst X105.here hx rfl (hb hby at_170)  k) ?_
      show Rch p e below T105 (mkF m 171 #[.val (.int p1), .val (.int sel), .unset, .unset, .unset, .unset, .unset] [(.int (1 : Int32)), (.ref a102), (.ref a102)]) _
      refine Rch.st (fun _ k => XS.bipush X105.here hx rfl (hb hby at_171)  k) ?_
      show Rch p e below T105 (mkF m 173 #[.val (.int p1), .val (.int sel), .unset, .unset, .unset, .unset, .unset] [(.int (115 : Int32)), (.int (1 : Int32)), (.ref a102), (.ref a102)]) _
      obtain ⟨T107, h107, L107, sl107, X107, e107, W107, V107, N107, st107⟩ := stCv X105 hx hZ e105 V105' N105 (Nat.le_trans Z0 le104) (j := (1 : Int32)) ⟨by decide, by decide⟩ 1 rfl (Nat.le_of_ble_eq_true rfl) (g := (mkF m 173 #[.val (.int p1), .val (.int sel), .unset, .unset, .unset, .unset, .unset] [(.int (115 : Int32)), (.int (1 : Int32)), (.ref a102), (.ref a102)])) rfl rfl (hb hby at_173)
      have V107' : Arv Z h107 a102 k102 .char (10 : Int32) [(.int (97 : Int32)), (.int (115 : Int32)), (.int (0 : Int32)), (.int (0 : Int32)), (.int (0 : Int32)), (.int (0 : Int32)), (.int (0 : Int32)), (.int (0 : Int32)), (.int (0 : Int32)), (.int (0 : Int32))] (.int (0 : Int32)) := V107
      have Ex108 : Ext h0 h107 := extWr Ex106 W107 le104
      refine Rch.st st107 ?_
      show Rch p e below T107 (mkF m 174 #[.val (.int p1), .val (.int sel), .unset, .unset, .unset, .unset, .unset] [(.ref a102)]) _
      refine Rch.st (fun _ k => XS.dup X107.here hx rfl (hb hby at_174) rfl rfl k) ?_
      show Rch p e below T107 (mkF m 175 #[.val (.int p1), .val (.int sel), .unset, .unset, .unset, .unset, .unset] [(.ref a102), (.ref a102)]) _
      refine Rch.st (fun _ k => XS.iconst X107.here hx rfl (hb hby at_175)  k) ?_
      show Rch p e below T107 (mkF m 176 #[.val (.int p1), .val (.int sel), .unset, .unset, .unset, .unset, .unset] [(.int (2 : Int32)), (.ref a102), (.ref a102)]) _
      refine Rch.st (fun _ k => XS.bipush X107.here hx rfl (hb hby at_176)  k) ?_
      show Rch p e below T107 (mkF m 178 #[.val (.int p1), .val (.int sel), .unset, .unset, .unset, .unset, .unset] [(.int (115 : Int32)), (.int (2 : Int32)), (.ref a102), (.ref a102)]) _
      obtain ⟨T109, h109, L109, sl109, X109, e109, W109, V109, N109, st109⟩ := stCv X107 hx hZ e107 V107' N107 (Nat.le_trans Z0 le104) (j := (2 : Int32)) ⟨by decide, by decide⟩ 2 rfl (Nat.le_of_ble_eq_true rfl) (g := (mkF m 178 #[.val (.int p1), .val (.int sel), .unset, .unset, .unset, .unset, .unset] [(.int (115 : Int32)), (.int (2 : Int32)), (.ref a102), (.ref a102)])) rfl rfl (hb hby at_178)
      have V109' : Arv Z h109 a102 k102 .char (10 : Int32) [(.int (97 : Int32)), (.int (115 : Int32)), (.int (115 : Int32)), (.int (0 : Int32)), (.int (0 : Int32)), (.int (0 : Int32)), (.int (0 : Int32)), (.int (0 : Int32)), (.int (0 : Int32)), (.int (0 : Int32))] (.int (0 : Int32)) := V109
      have Ex110 : Ext h0 h109 := extWr Ex108 W109 le104
      refine Rch.st st109 ?_
      show Rch p e below T109 (mkF m 179 #[.val (.int p1), .val (.int sel), .unset, .unset, .unset, .unset, .unset] [(.ref a102)]) _
      refine Rch.st (fun _ k => XS.dup X109.here hx rfl (hb hby at_179) rfl rfl k) ?_
      show Rch p e below T109 (mkF m 180 #[.val (.int p1), .val (.int sel), .unset, .unset, .unset, .unset, .unset] [(.ref a102), (.ref a102)]) _
      refine Rch.st (fun _ k => XS.iconst X109.here hx rfl (hb hby at_180)  k) ?_
      show Rch p e below T109 (mkF m 181 #[.val (.int p1), .val (.int sel), .unset, .unset, .unset, .unset, .unset] [(.int (3 : Int32)), (.ref a102), (.ref a102)]) _
      refine Rch.st (fun _ k => XS.bipush X109.here hx rfl (hb hby at_181)  k) ?_
      show Rch p e below T109 (mkF m 183 #[.val (.int p1), .val (.int sel), .unset, .unset, .unset, .unset, .unset] [(.int (105 : Int32)), (.int (3 : Int32)), (.ref a102), (.ref a102)]) _
      obtain ⟨T111, h111, L111, sl111, X111, e111, W111, V111, N111, st111⟩ := stCv X109 hx hZ e109 V109' N109 (Nat.le_trans Z0 le104) (j := (3 : Int32)) ⟨by decide, by decide⟩ 3 rfl (Nat.le_of_ble_eq_true rfl) (g := (mkF m 183 #[.val (.int p1), .val (.int sel), .unset, .unset, .unset, .unset, .unset] [(.int (105 : Int32)), (.int (3 : Int32)), (.ref a102), (.ref a102)])) rfl rfl (hb hby at_183)
      have V111' : Arv Z h111 a102 k102 .char (10 : Int32) [(.int (97 : Int32)), (.int (115 : Int32)), (.int (115 : Int32)), (.int (105 : Int32)), (.int (0 : Int32)), (.int (0 : Int32)), (.int (0 : Int32)), (.int (0 : Int32)), (.int (0 : Int32)), (.int (0 : Int32))] (.int (0 : Int32)) := V111
      have Ex112 : Ext h0 h111 := extWr Ex110 W111 le104
      refine Rch.st st111 ?_
      show Rch p e below T111 (mkF m 184 #[.val (.int p1), .val (.int sel), .unset, .unset, .unset, .unset, .unset] [(.ref a102)]) _
      refine Rch.st (fun _ k => XS.dup X111.here hx rfl (hb hby at_184) rfl rfl k) ?_
      show Rch p e below T111 (mkF m 185 #[.val (.int p1), .val (.int sel), .unset, .unset, .unset, .unset, .unset] [(.ref a102), (.ref a102)]) _
      refine Rch.st (fun _ k => XS.iconst X111.here hx rfl (hb hby at_185)  k) ?_
      show Rch p e below T111 (mkF m 186 #[.val (.int p1), .val (.int sel), .unset, .unset, .unset, .unset, .unset] [(.int (4 : Int32)), (.ref a102), (.ref a102)]) _
      refine Rch.st (fun _ k => XS.bipush X111.here hx rfl (hb hby at_186)  k) ?_
      show Rch p e below T111 (mkF m 188 #[.val (.int p1), .val (.int sel), .unset, .unset, .unset, .unset, .unset] [(.int (103 : Int32)), (.int (4 : Int32)), (.ref a102), (.ref a102)]) _
      obtain ⟨T113, h113, L113, sl113, X113, e113, W113, V113, N113, st113⟩ := stCv X111 hx hZ e111 V111' N111 (Nat.le_trans Z0 le104) (j := (4 : Int32)) ⟨by decide, by decide⟩ 4 rfl (Nat.le_of_ble_eq_true rfl) (g := (mkF m 188 #[.val (.int p1), .val (.int sel), .unset, .unset, .unset, .unset, .unset] [(.int (103 : Int32)), (.int (4 : Int32)), (.ref a102), (.ref a102)])) rfl rfl (hb hby at_188)
      have V113' : Arv Z h113 a102 k102 .char (10 : Int32) [(.int (97 : Int32)), (.int (115 : Int32)), (.int (115 : Int32)), (.int (105 : Int32)), (.int (103 : Int32)), (.int (0 : Int32)), (.int (0 : Int32)), (.int (0 : Int32)), (.int (0 : Int32)), (.int (0 : Int32))] (.int (0 : Int32)) := V113
      have Ex114 : Ext h0 h113 := extWr Ex112 W113 le104
      refine Rch.st st113 ?_
      show Rch p e below T113 (mkF m 189 #[.val (.int p1), .val (.int sel), .unset, .unset, .unset, .unset, .unset] [(.ref a102)]) _
      refine Rch.st (fun _ k => XS.dup X113.here hx rfl (hb hby at_189) rfl rfl k) ?_
      show Rch p e below T113 (mkF m 190 #[.val (.int p1), .val (.int sel), .unset, .unset, .unset, .unset, .unset] [(.ref a102), (.ref a102)]) _
      refine Rch.st (fun _ k => XS.iconst X113.here hx rfl (hb hby at_190)  k) ?_
      show Rch p e below T113 (mkF m 191 #[.val (.int p1), .val (.int sel), .unset, .unset, .unset, .unset, .unset] [(.int (5 : Int32)), (.ref a102), (.ref a102)]) _
      refine Rch.st (fun _ k => XS.bipush X113.here hx rfl (hb hby at_191)  k) ?_
      show Rch p e below T113 (mkF m 193 #[.val (.int p1), .val (.int sel), .unset, .unset, .unset, .unset, .unset] [(.int (110 : Int32)), (.int (5 : Int32)), (.ref a102), (.ref a102)]) _
      obtain ⟨T115, h115, L115, sl115, X115, e115, W115, V115, N115, st115⟩ := stCv X113 hx hZ e113 V113' N113 (Nat.le_trans Z0 le104) (j := (5 : Int32)) ⟨by decide, by decide⟩ 5 rfl (Nat.le_of_ble_eq_true rfl) (g := (mkF m 193 #[.val (.int p1), .val (.int sel), .unset, .unset, .unset, .unset, .unset] [(.int (110 : Int32)), (.int (5 : Int32)), (.ref a102), (.ref a102)])) rfl rfl (hb hby at_193)
      have V115' : Arv Z h115 a102 k102 .char (10 : Int32) [(.int (97 : Int32)), (.int (115 : Int32)), (.int (115 : Int32)), (.int (105 : Int32)), (.int (103 : Int32)), (.int (110 : Int32)), (.int (0 : Int32)), (.int (0 : Int32)), (.int (0 : Int32)), (.int (0 : Int32))] (.int (0 : Int32)) := V115
      have Ex116 : Ext h0 h115 := extWr Ex114 W115 le104
      refine Rch.st st115 ?_
      show Rch p e below T115 (mkF m 194 #[.val (.int p1), .val (.int sel), .unset, .unset, .unset, .unset, .unset] [(.ref a102)]) _
      refine Rch.st (fun _ k => XS.dup X115.here hx rfl (hb hby at_194) rfl rfl k) ?_
      show Rch p e below T115 (mkF m 195 #[.val (.int p1), .val (.int sel), .unset, .unset, .unset, .unset, .unset] [(.ref a102), (.ref a102)]) _
      refine Rch.st (fun _ k => XS.bipush X115.here hx rfl (hb hby at_195)  k) ?_
      show Rch p e below T115 (mkF m 197 #[.val (.int p1), .val (.int sel), .unset, .unset, .unset, .unset, .unset] [(.int (6 : Int32)), (.ref a102), (.ref a102)]) _
      refine Rch.st (fun _ k => XS.bipush X115.here hx rfl (hb hby at_197)  k) ?_
      show Rch p e below T115 (mkF m 199 #[.val (.int p1), .val (.int sel), .unset, .unset, .unset, .unset, .unset] [(.int (109 : Int32)), (.int (6 : Int32)), (.ref a102), (.ref a102)]) _
      obtain ⟨T117, h117, L117, sl117, X117, e117, W117, V117, N117, st117⟩ := stCv X115 hx hZ e115 V115' N115 (Nat.le_trans Z0 le104) (j := (6 : Int32)) ⟨by decide, by decide⟩ 6 rfl (Nat.le_of_ble_eq_true rfl) (g := (mkF m 199 #[.val (.int p1), .val (.int sel), .unset, .unset, .unset, .unset, .unset] [(.int (109 : Int32)), (.int (6 : Int32)), (.ref a102), (.ref a102)])) rfl rfl (hb hby at_199)
      have V117' : Arv Z h117 a102 k102 .char (10 : Int32) [(.int (97 : Int32)), (.int (115 : Int32)), (.int (115 : Int32)), (.int (105 : Int32)), (.int (103 : Int32)), (.int (110 : Int32)), (.int (109 : Int32)), (.int (0 : Int32)), (.int (0 : Int32)), (.int (0 : Int32))] (.int (0 : Int32)) := V117
      have Ex118 : Ext h0 h117 := extWr Ex116 W117 le104
      refine Rch.st st117 ?_
      show Rch p e below T117 (mkF m 200 #[.val (.int p1), .val (.int sel), .unset, .unset, .unset, .unset, .unset] [(.ref a102)]) _
      refine Rch.st (fun _ k => XS.dup X117.here hx rfl (hb hby at_200) rfl rfl k) ?_
      show Rch p e below T117 (mkF m 201 #[.val (.int p1), .val (.int sel), .unset, .unset, .unset, .unset, .unset] [(.ref a102), (.ref a102)]) _
      refine Rch.st (fun _ k => XS.bipush X117.here hx rfl (hb hby at_201)  k) ?_
      show Rch p e below T117 (mkF m 203 #[.val (.int p1), .val (.int sel), .unset, .unset, .unset, .unset, .unset] [(.int (7 : Int32)), (.ref a102), (.ref a102)]) _
      refine Rch.st (fun _ k => XS.bipush X117.here hx rfl (hb hby at_203)  k) ?_
      show Rch p e below T117 (mkF m 205 #[.val (.int p1), .val (.int sel), .unset, .unset, .unset, .unset, .unset] [(.int (101 : Int32)), (.int (7 : Int32)), (.ref a102), (.ref a102)]) _
      obtain ⟨T119, h119, L119, sl119, X119, e119, W119, V119, N119, st119⟩ := stCv X117 hx hZ e117 V117' N117 (Nat.le_trans Z0 le104) (j := (7 : Int32)) ⟨by decide, by decide⟩ 7 rfl (Nat.le_of_ble_eq_true rfl) (g := (mkF m 205 #[.val (.int p1), .val (.int sel), .unset, .unset, .unset, .unset, .unset] [(.int (101 : Int32)), (.int (7 : Int32)), (.ref a102), (.ref a102)])) rfl rfl (hb hby at_205)
      have V119' : Arv Z h119 a102 k102 .char (10 : Int32) [(.int (97 : Int32)), (.int (115 : Int32)), (.int (115 : Int32)), (.int (105 : Int32)), (.int (103 : Int32)), (.int (110 : Int32)), (.int (109 : Int32)), (.int (101 : Int32)), (.int (0 : Int32)), (.int (0 : Int32))] (.int (0 : Int32)) := V119
      have Ex120 : Ext h0 h119 := extWr Ex118 W119 le104
      refine Rch.st st119 ?_
      show Rch p e below T119 (mkF m 206 #[.val (.int p1), .val (.int sel), .unset, .unset, .unset, .unset, .unset] [(.ref a102)]) _
      refine Rch.st (fun _ k => XS.dup X119.here hx rfl (hb hby at_206) rfl rfl k) ?_
      show Rch p e below T119 (mkF m 207 #[.val (.int p1), .val (.int sel), .unset, .unset, .unset, .unset, .unset] [(.ref a102), (.ref a102)]) _
      refine Rch.st (fun _ k => XS.bipush X119.here hx rfl (hb hby at_207)  k) ?_
      show Rch p e below T119 (mkF m 209 #[.val (.int p1), .val (.int sel), .unset, .unset, .unset, .unset, .unset] [(.int (8 : Int32)), (.ref a102), (.ref a102)]) _
      refine Rch.st (fun _ k => XS.bipush X119.here hx rfl (hb hby at_209)  k) ?_
      show Rch p e below T119 (mkF m 211 #[.val (.int p1), .val (.int sel), .unset, .unset, .unset, .unset, .unset] [(.int (110 : Int32)), (.int (8 : Int32)), (.ref a102), (.ref a102)]) _
      obtain ⟨T121, h121, L121, sl121, X121, e121, W121, V121, N121, st121⟩ := stCv X119 hx hZ e119 V119' N119 (Nat.le_trans Z0 le104) (j := (8 : Int32)) ⟨by decide, by decide⟩ 8 rfl (Nat.le_of_ble_eq_true rfl) (g := (mkF m 211 #[.val (.int p1), .val (.int sel), .unset, .unset, .unset, .unset, .unset] [(.int (110 : Int32)), (.int (8 : Int32)), (.ref a102), (.ref a102)])) rfl rfl (hb hby at_211)
      have V121' : Arv Z h121 a102 k102 .char (10 : Int32) [(.int (97 : Int32)), (.int (115 : Int32)), (.int (115 : Int32)), (.int (105 : Int32)), (.int (103 : Int32)), (.int (110 : Int32)), (.int (109 : Int32)), (.int (101 : Int32)), (.int (110 : Int32)), (.int (0 : Int32))] (.int (0 : Int32)) := V121
      have Ex122 : Ext h0 h121 := extWr Ex120 W121 le104
      refine Rch.st st121 ?_
      show Rch p e below T121 (mkF m 212 #[.val (.int p1), .val (.int sel), .unset, .unset, .unset, .unset, .unset] [(.ref a102)]) _
      refine Rch.st (fun _ k => XS.dup X121.here hx rfl (hb hby at_212) rfl rfl k) ?_
      show Rch p e below T121 (mkF m 213 #[.val (.int p1), .val (.int sel), .unset, .unset, .unset, .unset, .unset] [(.ref a102), (.ref a102)]) _
      refine Rch.st (fun _ k => XS.bipush X121.here hx rfl (hb hby at_213)  k) ?_
      show Rch p e below T121 (mkF m 215 #[.val (.int p1), .val (.int sel), .unset, .unset, .unset, .unset, .unset] [(.int (9 : Int32)), (.ref a102), (.ref a102)]) _
      refine Rch.st (fun _ k => XS.bipush X121.here hx rfl (hb hby at_215)  k) ?_
      show Rch p e below T121 (mkF m 217 #[.val (.int p1), .val (.int sel), .unset, .unset, .unset, .unset, .unset] [(.int (116 : Int32)), (.int (9 : Int32)), (.ref a102), (.ref a102)]) _
      obtain ⟨T123, h123, L123, sl123, X123, e123, W123, V123, N123, st123⟩ := stCv X121 hx hZ e121 V121' N121 (Nat.le_trans Z0 le104) (j := (9 : Int32)) ⟨by decide, by decide⟩ 9 rfl (Nat.le_of_ble_eq_true rfl) (g := (mkF m 217 #[.val (.int p1), .val (.int sel), .unset, .unset, .unset, .unset, .unset] [(.int (116 : Int32)), (.int (9 : Int32)), (.ref a102), (.ref a102)])) rfl rfl (hb hby at_217)
      have V123' : Arv Z h123 a102 k102 .char (10 : Int32) [(.int (97 : Int32)), (.int (115 : Int32)), (.int (115 : Int32)), (.int (105 : Int32)), (.int (103 : Int32)), (.int (110 : Int32)), (.int (109 : Int32)), (.int (101 : Int32)), (.int (110 : Int32)), (.int (116 : Int32))] (.int (0 : Int32)) := V123
      have Ex124 : Ext h0 h123 := extWr Ex122 W123 le104
      refine Rch.st st123 ?_
      show Rch p e below T123 (mkF m 218 #[.val (.int p1), .val (.int sel), .unset, .unset, .unset, .unset, .unset] [(.ref a102)]) _
      refine Rch.st (fun _ k => XS.astoreN X123.here hx rfl (hb hby at_218) rfl rfl (l' := #[.val (.int p1), .val (.int sel), .val (.ref a102), .unset, .unset, .unset, .unset]) rfl k) ?_
      show Rch p e below T123 (mkF m 219 #[.val (.int p1), .val (.int sel), .val (.ref a102), .unset, .unset, .unset, .unset] []) _
      obtain ⟨T125, X125, e125, st125⟩ := getS2 X123 hx hZ hown (host := "") (Or.inl (wq hw 71 rfl)) Via.refl e123 (B.ext Ex124).2.2.2.2.2.1 (g := (mkF m 219 #[.val (.int p1), .val (.int sel), .val (.ref a102), .unset, .unset, .unset, .unset] [])) rfl (hb hby at_219)
      refine Rch.st st125 ?_
      show Rch p e below T125 (mkF m 222 #[.val (.int p1), .val (.int sel), .val (.ref a102), .unset, .unset, .unset, .unset] [(.ref w2)]) _
      refine Rch.st (fun _ k => XS.astoreN X125.here hx rfl (hb hby at_222) rfl rfl (l' := #[.val (.int p1), .val (.int sel), .val (.ref a102), .val (.ref w2), .unset, .unset, .unset]) rfl k) ?_
      show Rch p e below T125 (mkF m 223 #[.val (.int p1), .val (.int sel), .val (.ref a102), .val (.ref w2), .unset, .unset, .unset] []) _
      obtain ⟨T126, h126, X126, e126, E126, A126, D126, -, st126⟩ := newO X125 hx hZ hown (wq hw 5 rfl) (wq hw 6 rfl) (wq hw 7 rfl) e125 (g := (mkF m 223 #[.val (.int p1), .val (.int sel), .val (.ref a102), .val (.ref w2), .unset, .unset, .unset] [])) rfl (hb hby at_223) (by decide) (by decide)
      obtain ⟨a126, g126⟩ : ∃ z, z = h123.size := ⟨_, rfl⟩
      rw [← g126] at A126 D126 st126
      have Ex127 : Ext h0 h126 := Ex124.tr E126
      have Ex128 : Ext h123 h126 := E126
      have le129 : h0.size ≤ a126 := Nat.le_trans Ex124.1 (Nat.le_of_eq g126.symm)
      have le130 : h123.size ≤ a126 := Nat.le_of_eq g126.symm
      refine Rch.st st126 ?_
      show Rch p e below T126 (mkF m 226 #[.val (.int p1), .val (.int sel), .val (.ref a102), .val (.ref w2), .unset, .unset, .unset] [(.ref a126)]) _
      refine Rch.st (fun _ k => XS.dup X126.here hx rfl (hb hby at_226) rfl rfl k) ?_
      show Rch p e below T126 (mkF m 227 #[.val (.int p1), .val (.int sel), .val (.ref a102), .val (.ref w2), .unset, .unset, .unset] [(.ref a126), (.ref a126)]) _
      refine Rch.st (fun _ k => XS.aloadN X126.here hx rfl (hb hby at_227) rfl rfl k) ?_
      show Rch p e below T126 (mkF m 228 #[.val (.int p1), .val (.int sel), .val (.ref a102), .val (.ref w2), .unset, .unset, .unset] [(.ref a102), (.ref a126), (.ref a126)]) _
      obtain ⟨_, _, ⟨T131, L131, k131, n131⟩, -, X131, ⟨Lc131, hQ131, l131, y131, z131⟩, st131⟩ := X126.specialBack hx (y := (⟨"java/lang/String", "<init>", "([C)V"⟩ : MethodName)) rfl hown (mvT hZ (wq hw 8 rfl)) (mvT hZ (wq hw 9 rfl)) (mvT hZ (wq hw 10 rfl)) (by decide) (backS (W := 1) hZ hw (cs := [(97 : Int32), (115 : Int32), (115 : Int32), (105 : Int32), (103 : Int32), (110 : Int32), (109 : Int32), (101 : Int32), (110 : Int32), (116 : Int32)]) (n := 10) (Nat.le_trans Z0 le129) (Nat.le_trans Z0 Ex127.1) A126 ((D126 (Or.inr (wq hw 33 rfl)) (ty := (.array .byte)) (by decide)).ext Ext.rf) ((D126 (Or.inr (wq hw 31 rfl)) (ty := .byte) (by decide)).ext Ext.rf) (V123'.ext Ex128) (B.ext Ex127).2.2.2.2.2.2.2.2.2.2.2.2.1 rfl rfl (by decide) (by decide) (by decide) (by decide) (by decide)) (g := (mkF m 228 #[.val (.int p1), .val (.int sel), .val (.ref a102), .val (.ref w2), .unset, .unset, .unset] [(.ref a102), (.ref a126), (.ref a126)])) rfl (by rw [hml]; rfl) (Steps.refl _) (a := a126) (argsL := [(.ref a102)]) (rest := [(.ref a126)]) (lenOf pd_2 rfl) rfl (by show 2 * 0 + _ ≤ _; exact Nat.le_of_eq rfl) (hb hby at_228) (fun _ _ => ⟨rfl, e126, (by decide : 2 + 1 ≤ _), (by decide : 14 + 10 ≤ _)⟩)
      dsimp only [Pt.U, Pt.locs, Pt.cells, Pt.slots] at X131 l131 y131 z131 st131 hQ131
      subst l131 y131 z131
      obtain ⟨rfl, Nq131, K131, Q131⟩ := hQ131
      have N131 := Fr.app N123 Nq131
      have Ex132 : Ext h0 T131.heap := extKeep1 Ex127 K131 le129
      have Ex133 : Ext h123 T131.heap := extKeep1 Ex128 K131 le130
      refine Rch.go st131 ?_
      show Rch p e below T131 (mkF m 231 #[.val (.int p1), .val (.int sel), .val (.ref a102), .val (.ref w2), .unset, .unset, .unset] [(.ref a126)]) _
      refine Rch.st (fun _ k => XS.astore X131.here hx rfl (hb hby at_231) rfl rfl (l' := #[.val (.int p1), .val (.int sel), .val (.ref a102), .val (.ref w2), .val (.ref a126), .unset, .unset]) rfl k) ?_
      show Rch p e below T131 (mkF m 233 #[.val (.int p1), .val (.int sel), .val (.ref a102), .val (.ref w2), .val (.ref a126), .unset, .unset] []) _
      refine Rch.st (fun _ k => XS.aload X131.here hx rfl (hb hby at_233) rfl rfl k) ?_
      show Rch p e below T131 (mkF m 235 #[.val (.int p1), .val (.int sel), .val (.ref a102), .val (.ref w2), .val (.ref a126), .unset, .unset] [(.ref a126)]) _
      obtain ⟨_, _, ⟨T134, L134, k134, n134⟩, -, X134, ⟨Lc134, hQ134, l134, y134, z134⟩, st134⟩ := Jvm.LawKit.callS X131 hx (y := (⟨"com/example/driftmark/driftmark/TradeKind", "parse", "(Ljava/lang/String;)Lcom/example/driftmark/driftmark/TradeKind;"⟩ : MethodName)) hown (mvT hZ (wq hw 34 rfl)) (mvT hZ (wq hw 35 rfl)) (mvT hZ (wq hw 3 rfl)) (mvT hZ (wq hw 36 rfl)) (by decide) (backOf (W := 0) (rm_parse l Z a0 hw [] a126 [(97 : Int32), (115 : Int32), (115 : Int32), (105 : Int32), (103 : Int32), (110 : Int32), (109 : Int32), (101 : Int32), (110 : Int32), (116 : Int32)] va w0 w1 w2 c0 c1 c2 kA T131.heap n0 (Nat.le_trans Z0 Ex132.1) Q131 (Or.inr (Or.inr (rfl))) (B.ext Ex132)) hZ (wq hw 36 rfl) (wq hw 3 rfl) (by decide) (by decide)) (g := (mkF m 235 #[.val (.int p1), .val (.int sel), .val (.ref a102), .val (.ref w2), .val (.ref a126), .unset, .unset] [(.ref a126)])) rfl (by rw [hml]; rfl) (argsL := [(.ref a126)]) (rest := []) (lenOf pd_3 rfl) rfl (by show 2 * 0 + _ ≤ _; exact Nat.le_of_eq rfl) (hb hby at_235) (fun _ _ => ⟨rfl, rfl, (by decide : 3 + 1 ≤ _), (by decide : 24 + 3 ≤ _)⟩)
      dsimp only [Pt.U, Pt.locs, Pt.cells, Pt.slots] at X134 l134 y134 z134 st134 hQ134
      subst l134 y134 z134
      obtain ⟨a134, rfl, Nq134, E134, i0_134, i1_134, i2_134⟩ := hQ134
      have N134 := Fr.app N131 Nq134
      have Ex135 : Ext h0 T134.heap := Ex132.tr E134
      have Ex136 : Ext h123 T134.heap := Ex133.tr E134
      have Ex137 : Ext T131.heap T134.heap := E134
      obtain rfl : w2 = a134 := (i2_134 rfl).symm
      refine Rch.st st134 ?_
      show Rch p e below T134 (mkF m 238 #[.val (.int p1), .val (.int sel), .val (.ref a102), .val (.ref w2), .val (.ref a126), .unset, .unset] [(.ref w2)]) _
      refine Rch.st (fun _ k => XS.astore X134.here hx rfl (hb hby at_238) rfl rfl (l' := #[.val (.int p1), .val (.int sel), .val (.ref a102), .val (.ref w2), .val (.ref a126), .val (.ref w2), .unset]) rfl k) ?_
      show Rch p e below T134 (mkF m 240 #[.val (.int p1), .val (.int sel), .val (.ref a102), .val (.ref w2), .val (.ref a126), .val (.ref w2), .unset] []) _
      refine Rch.st (fun _ k => XS.aloadN X134.here hx rfl (hb hby at_240) rfl rfl k) ?_
      show Rch p e below T134 (mkF m 241 #[.val (.int p1), .val (.int sel), .val (.ref a102), .val (.ref w2), .val (.ref a126), .val (.ref w2), .unset] [(.ref w2)]) _
      obtain ⟨cq138, kq138, q138a, q138b, q138c⟩ := isOf hZ rfl ((B.ext Ex135).2.2.2.2.2.2.2.2.2.2.2.2.2.2.2)
      obtain ⟨_, _, ⟨T138, L138, k138, n138⟩, -, X138, ⟨Lc138, hQ138, l138, y138, z138⟩, st138⟩ := X134.virtualBack hx (y := (⟨"com/example/driftmark/driftmark/TradeKind", "code", "()Ljava/lang/String;"⟩ : MethodName)) (z := (⟨"com/example/driftmark/driftmark/TradeKind", "code", "()Ljava/lang/String;"⟩ : MethodName)) hown (mvT hZ (wq hw 66 rfl)) (mvT hZ (wq hw 67 rfl)) (notFace_of_selects (args := #[]) (mvT hZ (wq hw 69 rfl))) (mvT hZ (wq hw 69 rfl)) (mvT hZ (wq hw 68 rfl)) (by decide) (backOf (W := 0) (rm_code l Z a0 hw [] w2 c2 T134.heap n0 (Nat.le_trans Z0 Ex135.1) ((B.ext Ex135).2.2.2.2.2.2.2.2.1)) hZ (wq hw 70 rfl) (wq hw 3 rfl) (by decide) (by decide)) q138a q138c (g := (mkF m 241 #[.val (.int p1), .val (.int sel), .val (.ref a102), .val (.ref w2), .val (.ref a126), .val (.ref w2), .unset] [(.ref w2)])) rfl (by rw [hml]; rfl) (Steps.refl _) (argsL := []) (rest := []) (lenOf pd_4 rfl) rfl (by show 2 * 0 + _ ≤ _; exact Nat.le_of_eq rfl) (hb hby at_241) (fun _ _ => ⟨rfl, rfl, (by decide : 4 + 0 ≤ _), (by decide : 27 + 0 ≤ _)⟩)
      dsimp only [Pt.U, Pt.locs, Pt.cells, Pt.slots] at X138 l138 y138 z138 st138 hQ138
      subst l138 y138 z138
      obtain ⟨rfl, Nq138, e138⟩ := hQ138
      have N138 := Fr.app N134 Nq138
      refine Rch.go st138 ?_
      show Rch p e below T138 (mkF m 244 #[.val (.int p1), .val (.int sel), .val (.ref a102), .val (.ref w2), .val (.ref a126), .val (.ref w2), .unset] [(.ref c2)]) _
      obtain ⟨_, _, ⟨T139, L139, k139, n139⟩, -, X139, ⟨Lc139, hQ139, l139, y139, z139⟩, st139⟩ := Jvm.LawKit.callS X138 hx (y := (⟨"com/example/driftmark/driftmark/TradeKind", "parse", "(Ljava/lang/String;)Lcom/example/driftmark/driftmark/TradeKind;"⟩ : MethodName)) hown (mvT hZ (wq hw 34 rfl)) (mvT hZ (wq hw 35 rfl)) (mvT hZ (wq hw 3 rfl)) (mvT hZ (wq hw 36 rfl)) (by decide) (backOf (W := 0) (rm_parse l Z a0 hw [] c2 ([97, 115, 115, 105, 103, 110, 109, 101, 110, 116] : List Int32) va w0 w1 w2 c0 c1 c2 kA T134.heap n0 (Nat.le_trans Z0 Ex135.1) ((B.ext Ex135).2.2.2.2.2.2.2.2.2.2.2.1) (Or.inr (Or.inr (rfl))) (B.ext Ex135)) hZ (wq hw 36 rfl) (wq hw 3 rfl) (by decide) (by decide)) (g := (mkF m 244 #[.val (.int p1), .val (.int sel), .val (.ref a102), .val (.ref w2), .val (.ref a126), .val (.ref w2), .unset] [(.ref c2)])) rfl (by rw [hml]; rfl) (argsL := [(.ref c2)]) (rest := []) (lenOf pd_3 rfl) rfl (by show 2 * 0 + _ ≤ _; exact Nat.le_of_eq rfl) (hb hby at_244) (fun _ _ => ⟨rfl, e138, (by decide : 4 + 1 ≤ _), (by decide : 27 + 3 ≤ _)⟩)
      dsimp only [Pt.U, Pt.locs, Pt.cells, Pt.slots] at X139 l139 y139 z139 st139 hQ139
      subst l139 y139 z139
      obtain ⟨a139, rfl, Nq139, E139, i0_139, i1_139, i2_139⟩ := hQ139
      have N139 := Fr.app N138 Nq139
      have Ex140 : Ext h0 T139.heap := Ex135.tr E139
      have Ex141 : Ext h123 T139.heap := Ex136.tr E139
      have Ex142 : Ext T131.heap T139.heap := Ex137.tr E139
      have Ex143 : Ext T134.heap T139.heap := E139
      obtain rfl : w2 = a139 := (i2_139 rfl).symm
      refine Rch.st st139 ?_
      show Rch p e below T139 (mkF m 247 #[.val (.int p1), .val (.int sel), .val (.ref a102), .val (.ref w2), .val (.ref a126), .val (.ref w2), .unset] [(.ref w2)]) _
      refine Rch.st (fun _ k => XS.astore X139.here hx rfl (hb hby at_247) rfl rfl (l' := #[.val (.int p1), .val (.int sel), .val (.ref a102), .val (.ref w2), .val (.ref a126), .val (.ref w2), .val (.ref w2)]) rfl k) ?_
      show Rch p e below T139 (mkF m 249 #[.val (.int p1), .val (.int sel), .val (.ref a102), .val (.ref w2), .val (.ref a126), .val (.ref w2), .val (.ref w2)] []) _
      refine Rch.st (fun _ k => XS.aload X139.here hx rfl (hb hby at_249) rfl rfl k) ?_
      show Rch p e below T139 (mkF m 251 #[.val (.int p1), .val (.int sel), .val (.ref a102), .val (.ref w2), .val (.ref a126), .val (.ref w2), .val (.ref w2)] [(.ref w2)]) _
      refine Rch.st (fun _ k => XS.aloadN X139.here hx rfl (hb hby at_251) rfl rfl k) ?_
      show Rch p e below T139 (mkF m 252 #[.val (.int p1), .val (.int sel), .val (.ref a102), .val (.ref w2), .val (.ref a126), .val (.ref w2), .val (.ref w2)] [(.ref w2), (.ref w2)]) _
      refine Rch.st (fun _ k => XT.acmpNo X139.here hx rfl (hb hby at_252) rfl rfl rfl (acN _) k) ?_
      show Rch p e below T139 (mkF m 255 #[.val (.int p1), .val (.int sel), .val (.ref a102), .val (.ref w2), .val (.ref a126), .val (.ref w2), .val (.ref w2)] []) _
      refine Rch.st (fun _ k => XS.aload X139.here hx rfl (hb hby at_255) rfl rfl k) ?_
      show Rch p e below T139 (mkF m 257 #[.val (.int p1), .val (.int sel), .val (.ref a102), .val (.ref w2), .val (.ref a126), .val (.ref w2), .val (.ref w2)] [(.ref w2)]) _
      refine Rch.st (fun _ k => XS.aloadN X139.here hx rfl (hb hby at_257) rfl rfl k) ?_
      show Rch p e below T139 (mkF m 258 #[.val (.int p1), .val (.int sel), .val (.ref a102), .val (.ref w2), .val (.ref a126), .val (.ref w2), .val (.ref w2)] [(.ref w2), (.ref w2)]) _
      refine Rch.st (fun _ k => XT.acmpNo X139.here hx rfl (hb hby at_258) rfl rfl rfl (acN _) k) ?_
      show Rch p e below T139 (mkF m 261 #[.val (.int p1), .val (.int sel), .val (.ref a102), .val (.ref w2), .val (.ref a126), .val (.ref w2), .val (.ref w2)] []) _
      refine Rch.st (fun _ k => XS.iconst X139.here hx rfl (hb hby at_261)  k) ?_
      show Rch p e below T139 (mkF m 262 #[.val (.int p1), .val (.int sel), .val (.ref a102), .val (.ref w2), .val (.ref a126), .val (.ref w2), .val (.ref w2)] [(.int (1 : Int32))]) _
      refine Rch.st (fun _ k => XS.goto X139.here hx rfl (pc0 := 262) (pc' := 266) rfl (hb hby at_262) (by decide) (by decide) k) ?_
      show Rch p e below T139 (mkF m 266 #[.val (.int p1), .val (.int sel), .val (.ref a102), .val (.ref w2), .val (.ref a126), .val (.ref w2), .val (.ref w2)] [(.int (1 : Int32))]) _
      exact Rch.fin (Q := Q_law Z p1 va w0 w1 w2 c0 c1 c2 kA h0 n0) X139 (v := some (.int (1 : Int32))) (fun h => by rw [Bd.returns] at h; cases h) (BodyLoose.notSynchronized Bd) (fun fs hr => retN X139 hx (t := .boolean) Bd.returns (by simp) (hb hby at_266) hr) ⟨rfl, N139⟩ (by decide) (by decide)
set_option maxRecDepth 65536 in
set_option maxHeartbeats 40000000 in
theorem comes_1 {Post : Tables → Env → Array Value → State → Outcome → State → Prop} (hpost : ∀ tb e args s v u, (limb_1_1.after args s (.returned v) u = true ∧ limb_1_2.after args s (.returned v) u = true ∧ True) → FrameEnd s (.returned v) u (Jvm.fieldLocs frame_1_writes args s ++ Jvm.arrayLocs frame_1_arrays args s ++ Jvm.staticLocs frame_1_statics s) 24 192 → Post tb e args s (.returned v) u) :
    ArmFor flags0 classFile x code maxLocals ret World_1 tables_1 room_1 Calls_1 rest_1 Pre_1 Post := by
  intro l hfl _ _ p e ha hc hk s m args below hf hA hF happ hP
  obtain ⟨hcalls, hrest, hpre⟩ := hP
  obtain ⟨-, -, -, hnamed, -, -, -, hat⟩ := (Spec.applies_iff hf).mp happ
  obtain ⟨hg, hn⟩ := and_e (Cond.before_iff.mp (show (Jvm.Cond.and given_1 narrow_1).before args s = true from hpre))
  obtain ⟨h1, h2⟩ := and_e hg
  obtain ⟨w0, rfl⟩ : ∃ w0 : Value, args = #[w0] := by
    have hs : args.size = 1 := by simpa [Cond.value, given_1] using h1
    obtain ⟨L⟩ := args
    match L, hs with
    | [w0], _ => exact ⟨w0, rfl⟩
  have hw := fun d (hd : d ∈ tables_1) => atoms_spec (ws := Jvm.Cond.code x code maxLocals ret :: tables_1) hat d (List.mem_cons_of_mem _ hd)
  obtain ⟨hsets, hown0⟩ := atoms_of _ (rest_1_c_eq ▸ (show rest_1_c.before _ s = true from hrest))
  have hfit : Fit s := fun {y c} hc i hi => by
    obtain ⟨ha, rfl⟩ := Array.getElem?_eq_some_iff.mp hc
    have q := List.all_eq_true.mp ((Array.all_eq_true_iff_forall_mem.mp hF) _ (Array.getElem_mem ha)) i (List.mem_range.mpr hi)
    simpa [Array.getElem?_eq_getElem hi] using q
  obtain ⟨i5, e4⟩ := is_v h2
  obtain rfl : w0 = (.int i5) := Option.some.inj e4
  obtain ⟨i7, e6⟩ := is_v (Cond.before_iff.mp (hsets _ (List.mem_of_getElem? (i := 1) rfl)))
  have n3 := not_v (Cond.before_iff.mp (hsets _ (List.mem_of_getElem? (i := 2) rfl)))
  have S8 : Sta s s.heap "java/lang/String" "COMPACT_STRINGS" "Z" (.int i7) := Sta.start e6 (Or.inl (hsets _ (List.mem_of_getElem? (i := 0) rfl)))
  have c13 : ¬ (i7 = (0 : Int32)) := gotF (Cond.eq_ints e6 (Term.int_eval (0))) n3
  obtain ⟨n_0, r_0⟩ := and_e hn
  obtain ⟨n_1, r_1⟩ := and_e r_0
  obtain ⟨n_2, r_2⟩ := and_e r_1
  obtain ⟨n_3, r_3⟩ := and_e r_2
  obtain ⟨n_4, r_4⟩ := and_e r_3
  obtain ⟨n_5, r_5⟩ := and_e r_4
  obtain ⟨n_6, r_6⟩ := and_e r_5
  obtain ⟨n_7, r_7⟩ := and_e r_6
  obtain ⟨n_8, r_8⟩ := and_e r_7
  obtain ⟨n_9, r_9⟩ := and_e r_8
  obtain ⟨n_10, r_10⟩ := and_e r_9
  obtain ⟨n_11, r_11⟩ := and_e r_10
  obtain ⟨n_12, r_12⟩ := and_e r_11
  obtain ⟨n_13, r_13⟩ := and_e r_12
  obtain ⟨n_14, r_14⟩ := and_e r_13
  obtain ⟨n_15, r_15⟩ := and_e r_14
  obtain ⟨n_16, r_16⟩ := and_e r_15
  obtain ⟨n_17, r_17⟩ := and_e r_16
  obtain ⟨n_18, r_18⟩ := and_e r_17
  obtain ⟨n_19, r_19⟩ := and_e r_18
  obtain ⟨n_20, r_20⟩ := and_e r_19
  obtain ⟨n_21, r_21⟩ := and_e r_20
  obtain ⟨n_22, r_22⟩ := and_e r_21
  obtain ⟨n_23, r_23⟩ := and_e r_22
  obtain ⟨n_24, r_24⟩ := and_e r_23
  obtain ⟨n_25, r_25⟩ := and_e r_24
  obtain ⟨n_26, r_26⟩ := and_e r_25
  obtain ⟨n_27, r_27⟩ := and_e r_26
  obtain ⟨n_28, r_28⟩ := and_e r_27
  obtain ⟨n_29, r_29⟩ := and_e r_28
  obtain ⟨n_30, r_30⟩ := and_e r_29
  obtain ⟨n_31, r_31⟩ := and_e r_30
  obtain ⟨n_32, r_32⟩ := and_e r_31
  obtain ⟨n_33, r_33⟩ := and_e r_32
  obtain ⟨n_34, r_34⟩ := and_e r_33
  obtain ⟨n_35, r_35⟩ := and_e r_34
  obtain ⟨n_36, r_36⟩ := and_e r_35
  obtain ⟨n_37, r_37⟩ := and_e r_36
  obtain ⟨n_38, r_38⟩ := and_e r_37
  obtain ⟨n_39, r_39⟩ := and_e r_38
  obtain ⟨n_40, r_40⟩ := and_e r_39
  obtain ⟨n_41, r_41⟩ := and_e r_40
  obtain ⟨n_42, r_42⟩ := and_e r_41
  obtain ⟨n_43, r_43⟩ := and_e r_42
  obtain ⟨n_44, r_44⟩ := and_e r_43
  obtain ⟨n_45, r_45⟩ := and_e r_44
  obtain ⟨n_46, r_46⟩ := and_e r_45
  obtain ⟨n_47, r_47⟩ := and_e r_46
  obtain ⟨n_48, r_48⟩ := and_e r_47
  obtain ⟨n_49, r_49⟩ := and_e r_48
  obtain ⟨n_50, r_50⟩ := and_e r_49
  obtain ⟨n_51, r_51⟩ := and_e r_50
  obtain ⟨n_52, r_52⟩ := and_e r_51
  obtain ⟨n_53, r_53⟩ := and_e r_52
  obtain ⟨n_54, r_54⟩ := and_e r_53
  have n_55 := r_54
  obtain ⟨va, eva⟩ := exa_v n_2
  have Sva := Sta.start eva (Or.inr ⟨(wq hw 3 rfl), (wq hw 41 rfl)⟩)
  have Eva := Exa.start eva n_2
  obtain ⟨cva, Ava⟩ := Arr.start eva n_1
  obtain ⟨lva, zva⟩ := len_is eva Ava.1 n_3
  obtain ⟨s0, es0⟩ := exa_v n_0
  have Ss0 := Sta.start es0 (Or.inr ⟨(wq hw 3 rfl), (wq hw 4 rfl)⟩)
  have Es0 := Exa.start es0 n_0
  have el0 := elem_ref eva es0 Ava.1 n_4
  obtain ⟨s1, es1⟩ := exa_v n_5
  have Ss1 := Sta.start es1 (Or.inr ⟨(wq hw 3 rfl), (wq hw 49 rfl)⟩)
  have Es1 := Exa.start es1 n_5
  have el1 := elem_ref eva es1 Ava.1 n_6
  obtain ⟨s2, es2⟩ := exa_v n_7
  have Ss2 := Sta.start es2 (Or.inr ⟨(wq hw 3 rfl), (wq hw 50 rfl)⟩)
  have Es2 := Exa.start es2 n_7
  have el2 := elem_ref eva es2 Ava.1 n_8
  have Vva : Arh s s.heap va cva.cls (.object "com/example/driftmark/driftmark/TradeKind") (3 : Int32) [] [(.ref s0), (.ref s1), (.ref s2)] .null := (Arv.start (vs := [(.ref s0), (.ref s1), (.ref s2)]) hfit Ava lva zva (by decide) rfl (by exact And.intro (el0) (And.intro (el1) (And.intro (el2) (trivial))))).arh
  obtain ⟨d0, ed0⟩ := exa_v n_9
  have Fd0 := fld_refS es0 ed0
  have Ed0 := Exa.start ed0 n_9
  have Cd0 := fld_int ed0 n_10
  obtain ⟨t0, et0⟩ := arr_v n_11
  have Ft0 := fld_refS ed0 et0
  obtain ⟨ct0, At0⟩ := Arr.start et0 n_11
  obtain ⟨lt0, zt0⟩ := len_is et0 At0.1 n_12
  have St0 : StrA s s.heap d0 ([97, 117, 99, 116, 105, 111, 110] : List Int32) := strOf (n := 7) rfl rfl (by decide) Ed0 Ft0 Cd0 (Arv.start hfit At0 lt0 zt0 (by decide) rfl (by exact And.intro (elem_int et0 At0.1 n_24) (And.intro (elem_int et0 At0.1 n_25) (And.intro (elem_int et0 At0.1 n_26) (And.intro (elem_int et0 At0.1 n_27) (And.intro (elem_int et0 At0.1 n_28) (And.intro (elem_int et0 At0.1 n_29) (And.intro (elem_int et0 At0.1 n_30) (trivial)))))))))
  obtain ⟨d1, ed1⟩ := exa_v n_13
  have Fd1 := fld_refS es1 ed1
  have Ed1 := Exa.start ed1 n_13
  have Cd1 := fld_int ed1 n_14
  obtain ⟨t1, et1⟩ := arr_v n_15
  have Ft1 := fld_refS ed1 et1
  obtain ⟨ct1, At1⟩ := Arr.start et1 n_15
  obtain ⟨lt1, zt1⟩ := len_is et1 At1.1 n_16
  have St1 : StrA s s.heap d1 ([114, 101, 99, 111, 110, 102, 105, 103, 117, 114, 97, 116, 105, 111, 110] : List Int32) := strOf (n := 15) rfl rfl (by decide) Ed1 Ft1 Cd1 (Arv.start hfit At1 lt1 zt1 (by decide) rfl (by exact And.intro (elem_int et1 At1.1 n_31) (And.intro (elem_int et1 At1.1 n_32) (And.intro (elem_int et1 At1.1 n_33) (And.intro (elem_int et1 At1.1 n_34) (And.intro (elem_int et1 At1.1 n_35) (And.intro (elem_int et1 At1.1 n_36) (And.intro (elem_int et1 At1.1 n_37) (And.intro (elem_int et1 At1.1 n_38) (And.intro (elem_int et1 At1.1 n_39) (And.intro (elem_int et1 At1.1 n_40) (And.intro (elem_int et1 At1.1 n_41) (And.intro (elem_int et1 At1.1 n_42) (And.intro (elem_int et1 At1.1 n_43) (And.intro (elem_int et1 At1.1 n_44) (And.intro (elem_int et1 At1.1 n_45) (trivial)))))))))))))))))
  obtain ⟨d2, ed2⟩ := exa_v n_17
  have Fd2 := fld_refS es2 ed2
  have Ed2 := Exa.start ed2 n_17
  have Cd2 := fld_int ed2 n_18
  obtain ⟨t2, et2⟩ := arr_v n_19
  have Ft2 := fld_refS ed2 et2
  obtain ⟨ct2, At2⟩ := Arr.start et2 n_19
  obtain ⟨lt2, zt2⟩ := len_is et2 At2.1 n_20
  have St2 : StrA s s.heap d2 ([97, 115, 115, 105, 103, 110, 109, 101, 110, 116] : List Int32) := strOf (n := 10) rfl rfl (by decide) Ed2 Ft2 Cd2 (Arv.start hfit At2 lt2 zt2 (by decide) rfl (by exact And.intro (elem_int et2 At2.1 n_46) (And.intro (elem_int et2 At2.1 n_47) (And.intro (elem_int et2 At2.1 n_48) (And.intro (elem_int et2 At2.1 n_49) (And.intro (elem_int et2 At2.1 n_50) (And.intro (elem_int et2 At2.1 n_51) (And.intro (elem_int et2 At2.1 n_52) (And.intro (elem_int et2 At2.1 n_53) (And.intro (elem_int et2 At2.1 n_54) (And.intro (elem_int et2 At2.1 n_55) (trivial))))))))))))
  have hB : Bg s s.heap va s0 s1 s2 d0 d1 d2 cva.cls := ⟨Sva, Eva, Vva, Ss0, Ss1, Ss2, Fd0, Fd1, Fd2, St0, St1, St2, ⟨i7, S8, c13⟩, Es0, Es1, Es2⟩
  obtain ⟨n, o, h1, h2, h3, _, L, rfl, ⟨rfl, N⟩, hq⟩ := rm_law l s _ hw tables_1 i5 _ _ _ _ _ _ _ _ s.heap s.heap.size (Nat.le_refl _) hB p e ha hc hk s m _ below hf ((Spec.applies_iff_loose hf).mp happ).1 ⟨rfl, State.Warmed39.refl s, rfl⟩ trivial
  refine ⟨n, _, h1, h2, h3, hpost _ _ _ _ _ _ ⟨Cond.after_iff.mpr rfl, Cond.after_iff.mpr (eq_i res_at (Term.int_eval (1)) rfl), trivial⟩ ⟨hq.1, hq.2.1, (hq.2.2.sift fun y hy => Or.inr (N y hy)).mono (by decide) (by decide)⟩⟩
theorem main_1_1 : Claimed_1_1 := comes_1 fun _ _ _ _ _ _ h hF => ⟨h.1, hF⟩
theorem main_1_2 : Claimed_1_2 := comes_1 fun _ _ _ _ _ _ h hF => ⟨h.2.1, hF⟩
end Jvm.Pilot.@@N@@
namespace Jvm.Pilot.@@N@@
open Jvm Jvm.ClassFile Sem Op Lib Jvm.Free Jvm.Stand Jvm.Pilot.@@N@@.Jvm.D
/-! MADE BY PROGRAM (witnessworld.py) out of the Statement's table words and the real class files: 22 classes; the members and pool entries that the words name. The judged class is class 1, her method 1. -/
namespace start1
open Jvm.ClassFile
def u (s : String) : CpInfo := .utf8 (stringToUtf16 s)
/-- a pool by its gaps: so many unusable entries, then the entry; so many at the end -/
def gap : Nat → List CpInfo → List CpInfo
  | 0, r => r
  | n + 1, r => .unusable :: gap n r
def poolList (es : List (Nat × CpInfo)) (last : Nat) : List CpInfo := es.foldr (fun e r => gap e.1 (e.2 :: r)) (gap last [])
def pool (es : List (Nat × CpInfo)) (last : Nat) : Array CpInfo := ⟨poolList es last⟩
def fileOf (pool : Array CpInfo) (this : Nat) (attrs : Array Attribute := #[]) (ms : Array MethodInfo := #[]) (fl : Nat := 33) (sup : Nat := 0) (ifs : Array Nat := #[]) (fds : Array FieldInfo := #[]) : ClassFile where
  minorVersion := 0
  majorVersion := 65
  constantPool := pool
  accessFlags := fl
  thisClass := this
  superClass := sup
  interfaces := ifs
  fields := fds
  methods := ms
  attributes := attrs
def plain (name : String) (sup : Option ClassId) : Class where
  name := name
  kind := .ordinary
  loader := none
  accessFlags := 33
  super := sup
  interfaces := #[]
  cf := none
  fields := #[]
  methods := #[]
  instanceTypes := #[]
  staticTypes := #[]
  resolved := #[]
  callSites := []
  init := .initialized
  statics := none
  mirror := none

def pool0 : Array CpInfo := pool [(5, u "<init>"), (0, u "()V"), (1, .class_ 10), (1, u "java/lang/Object"), (85, u "clone"), (0, u "()Ljava/lang/Object;")] 26

def k0c0 : Code := { maxStack := 0, maxLocals := 1, code := object_method_1_code, exceptionTable := #[], attributes := #[] }
def k0m0 : Method := { name := "<init>", desc := "()V", sig := { parameters := [], returnType := none }, accessFlags := 1, code := some k0c0 }
def k0m1 : Method := { name := "clone", desc := "()Ljava/lang/Object;", sig := { parameters := [], returnType := some (.object "java/lang/Object") }, accessFlags := 260, code := none }
/-- java/lang/Object -/
def k0 : Class := { plain "java/lang/Object" none with
  accessFlags := 33
  interfaces := #[]
  cf := some (fileOf pool0 8 #[] #[{ accessFlags := 1, nameIndex := 5, descriptorIndex := 6, attributes := #[] }, { accessFlags := 260, nameIndex := 96, descriptorIndex := 97, attributes := #[] }] 33 0 #[] #[])
  fields := #[]
  methods := #[k0m0, k0m1]
  instanceTypes := #[]
  staticTypes := #[]
  resolved := Array.replicate 124 none
  statics := none }

def pool1 : Array CpInfo := pool [(2, .class_ 4), (1, u "java/lang/Object"), (0, u "<init>"), (0, u "()V"), (0, .integer 2147483647), (0, .fieldref 9 10), (0, .class_ 11), (0, .nameAndType 12 13), (0, u "com/example/driftmark/driftmark/TradeKind"), (0, u "AUCTION"), (0, u "Lcom/example/driftmark/driftmark/TradeKind;"), (0, .fieldref 9 15), (0, .nameAndType 16 13), (0, u "RECONFIGURATION"), (0, .fieldref 9 18), (0, .nameAndType 19 13), (0, u "ASSIGNMENT"), (0, .class_ 21), (0, u "java/lang/String"), (0, .methodref 20 23), (0, .nameAndType 5 24), (0, u "([C)V"), (0, .methodref 9 26), (0, .nameAndType 27 28), (0, u "parse"), (0, u "(Ljava/lang/String;)Lcom/example/driftmark/driftmark/TradeKind;"), (0, .methodref 9 30), (0, .nameAndType 31 32), (0, u "code"), (0, u "()Ljava/lang/String;"), (0, .class_ 34), (0, u "com/example/driftmark/driftmark/TradeKindParsePinLaw"), (2, u "law"), (0, u "(I)Z")] 5

def k1m0 : Method := { name := "<init>", desc := "()V", sig := { parameters := [], returnType := none }, accessFlags := 1, code := none }
def k1c1 : Code := { maxStack := 4, maxLocals := 7, code := code, exceptionTable := #[], attributes := #[] }
def k1m1 : Method := { name := "law", desc := "(I)Z", sig := { parameters := [.int], returnType := some .boolean }, accessFlags := 9, code := some k1c1 }
/-- com/example/driftmark/driftmark/TradeKindParsePinLaw -/
def k1 : Class := { plain "com/example/driftmark/driftmark/TradeKindParsePinLaw" (some 0) with
  accessFlags := 49
  interfaces := #[]
  cf := some (fileOf pool1 33 #[] #[{ accessFlags := 1, nameIndex := 5, descriptorIndex := 6, attributes := #[] }, { accessFlags := 9, nameIndex := 37, descriptorIndex := 38, attributes := #[] }] 49 2 #[] #[])
  fields := #[]
  methods := #[k1m0, k1m1]
  instanceTypes := #[]
  staticTypes := #[]
  resolved := Array.replicate 44 none
  statics := none }

def pool2 : Array CpInfo := pool [(1, .class_ 2), (0, u "java/lang/constant/Constable"), (0, .class_ 4), (0, u "java/lang/Object")] 6

/-- java/lang/constant/Constable -/
def k2 : Class := { plain "java/lang/constant/Constable" (some 0) with
  accessFlags := 1537
  interfaces := #[]
  cf := some (fileOf pool2 1 #[] #[] 1537 3 #[] #[])
  fields := #[]
  methods := #[]
  instanceTypes := #[]
  staticTypes := #[]
  resolved := Array.replicate 11 none
  statics := none }

def pool3 : Array CpInfo := pool [(1, .class_ 2), (0, u "java/lang/Comparable"), (0, .class_ 4), (0, u "java/lang/Object")] 7

/-- java/lang/Comparable -/
def k3 : Class := { plain "java/lang/Comparable" (some 0) with
  accessFlags := 1537
  interfaces := #[]
  cf := some (fileOf pool3 1 #[] #[] 1537 3 #[] #[])
  fields := #[]
  methods := #[]
  instanceTypes := #[]
  staticTypes := #[]
  resolved := Array.replicate 12 none
  statics := none }

def pool4 : Array CpInfo := pool [(1, .class_ 2), (0, u "java/io/Serializable"), (0, .class_ 4), (0, u "java/lang/Object")] 2

/-- java/io/Serializable -/
def k4 : Class := { plain "java/io/Serializable" (some 0) with
  accessFlags := 1537
  interfaces := #[]
  cf := some (fileOf pool4 1 #[] #[] 1537 3 #[] #[])
  fields := #[]
  methods := #[]
  instanceTypes := #[]
  staticTypes := #[]
  resolved := Array.replicate 7 none
  statics := none }

def pool5 : Array CpInfo := pool [(2, .class_ 4), (1, u "java/lang/Enum"), (0, u "name"), (0, u "Ljava/lang/String;"), (2, u "ordinal"), (0, u "I"), (1, .class_ 14), (1, u "java/lang/Object"), (4, u "hash"), (86, .class_ 108), (1, u "java/lang/Enum$EnumDesc"), (2, .class_ 112), (0, u "java/lang/constant/Constable"), (0, .class_ 114), (0, u "java/lang/Comparable"), (0, .class_ 116), (0, u "java/io/Serializable")] 87

/-- java/lang/Enum -/
def k5 : Class := { plain "java/lang/Enum" (some 0) with
  accessFlags := 1057
  interfaces := #[2, 3, 4]
  cf := some (fileOf pool5 2 #[.nestMembers #[106]] #[] 1057 12 #[111, 113, 115] #[{ accessFlags := 18, nameIndex := 5, descriptorIndex := 6, attributes := #[] }, { accessFlags := 18, nameIndex := 9, descriptorIndex := 10, attributes := #[] }, { accessFlags := 2, nameIndex := 19, descriptorIndex := 10, attributes := #[] }])
  fields := #[{ name := "name", type := (.object "java/lang/String"), accessFlags := 18, slot := 0, constantValue := 0 }, { name := "ordinal", type := .int, accessFlags := 18, slot := 1, constantValue := 0 }, { name := "hash", type := .int, accessFlags := 2, slot := 2, constantValue := 0 }]
  methods := #[]
  instanceTypes := #[(.object "java/lang/String"), .int, .int]
  staticTypes := #[]
  resolved := Array.replicate 204 none
  statics := none }

def pool6 : Array CpInfo := pool [(1, .class_ 2), (0, u "com/example/driftmark/driftmark/TradeKind"), (2, u "AUCTION"), (0, u "Lcom/example/driftmark/driftmark/TradeKind;"), (2, u "RECONFIGURATION"), (2, u "ASSIGNMENT"), (0, .fieldref 1 14), (0, .nameAndType 15 16), (0, u "$VALUES"), (0, u "[Lcom/example/driftmark/driftmark/TradeKind;"), (0, .methodref 18 19), (0, .class_ 16), (0, .nameAndType 20 21), (0, u "clone"), (0, u "()Ljava/lang/Object;"), (1, .class_ 25), (1, u "java/lang/Enum"), (6, .fieldref 1 33), (0, .nameAndType 34 35), (0, u "code"), (0, u "Ljava/lang/String;"), (2, u "canSetDsp"), (0, u "Z"), (0, .methodref 1 41), (0, .nameAndType 42 43), (0, u "values"), (0, u "()[Lcom/example/driftmark/driftmark/TradeKind;"), (0, .methodref 45 46), (0, .class_ 47), (0, .nameAndType 48 49), (0, u "java/lang/String"), (0, u "equals"), (0, u "(Ljava/lang/Object;)Z"), (26, u "(Ljava/lang/String;)Lcom/example/driftmark/driftmark/TradeKind;"), (3, u "parse"), (2, u "()Ljava/lang/String;")] 20

def k6c0 : Code := { maxStack := 1, maxLocals := 0, code := prog_19_method_1_code, exceptionTable := #[], attributes := #[] }
def k6m0 : Method := { name := "values", desc := "()[Lcom/example/driftmark/driftmark/TradeKind;", sig := { parameters := [], returnType := some (.array (.object "com/example/driftmark/driftmark/TradeKind")) }, accessFlags := 9, code := some k6c0 }
def k6c1 : Code := { maxStack := 3, maxLocals := 5, code := prog_19_method_4_code, exceptionTable := #[], attributes := #[] }
def k6m1 : Method := { name := "parse", desc := "(Ljava/lang/String;)Lcom/example/driftmark/driftmark/TradeKind;", sig := { parameters := [(.object "java/lang/String")], returnType := some (.object "com/example/driftmark/driftmark/TradeKind") }, accessFlags := 9, code := some k6c1 }
def k6c2 : Code := { maxStack := 1, maxLocals := 1, code := prog_19_method_6_code, exceptionTable := #[], attributes := #[] }
def k6m2 : Method := { name := "code", desc := "()Ljava/lang/String;", sig := { parameters := [], returnType := some (.object "java/lang/String") }, accessFlags := 1, code := some k6c2 }
/-- com/example/driftmark/driftmark/TradeKind -/
def k6 : Class := { plain "com/example/driftmark/driftmark/TradeKind" (some 5) with
  accessFlags := 16433
  interfaces := #[]
  cf := some (fileOf pool6 1 #[] #[{ accessFlags := 9, nameIndex := 42, descriptorIndex := 43, attributes := #[] }, { accessFlags := 9, nameIndex := 80, descriptorIndex := 76, attributes := #[] }, { accessFlags := 1, nameIndex := 34, descriptorIndex := 83, attributes := #[] }] 16433 23 #[] #[{ accessFlags := 16409, nameIndex := 5, descriptorIndex := 6, attributes := #[] }, { accessFlags := 16409, nameIndex := 9, descriptorIndex := 6, attributes := #[] }, { accessFlags := 16409, nameIndex := 12, descriptorIndex := 6, attributes := #[] }, { accessFlags := 18, nameIndex := 34, descriptorIndex := 35, attributes := #[] }, { accessFlags := 18, nameIndex := 38, descriptorIndex := 39, attributes := #[] }, { accessFlags := 4122, nameIndex := 15, descriptorIndex := 16, attributes := #[] }])
  fields := #[{ name := "AUCTION", type := (.object "com/example/driftmark/driftmark/TradeKind"), accessFlags := 16409, slot := 0, constantValue := 0 }, { name := "RECONFIGURATION", type := (.object "com/example/driftmark/driftmark/TradeKind"), accessFlags := 16409, slot := 1, constantValue := 0 }, { name := "ASSIGNMENT", type := (.object "com/example/driftmark/driftmark/TradeKind"), accessFlags := 16409, slot := 2, constantValue := 0 }, { name := "code", type := (.object "java/lang/String"), accessFlags := 18, slot := 3, constantValue := 0 }, { name := "canSetDsp", type := .boolean, accessFlags := 18, slot := 4, constantValue := 0 }, { name := "$VALUES", type := (.array (.object "com/example/driftmark/driftmark/TradeKind")), accessFlags := 4122, slot := 3, constantValue := 0 }]
  methods := #[k6m0, k6m1, k6m2]
  instanceTypes := #[(.object "java/lang/String"), .int, .int, (.object "java/lang/String"), .boolean]
  staticTypes := #[(.object "com/example/driftmark/driftmark/TradeKind"), (.object "com/example/driftmark/driftmark/TradeKind"), (.object "com/example/driftmark/driftmark/TradeKind"), (.array (.object "com/example/driftmark/driftmark/TradeKind"))]
  resolved := Array.replicate 104 none
  statics := some 0 }

def pool7 : Array CpInfo := pool [(2, .class_ 4), (1, u "java/lang/CharSequence"), (42, .class_ 48), (0, u "java/lang/CharSequence$1CodePointIterator"), (10, .class_ 60), (0, u "java/lang/CharSequence$1CharIterator"), (5, .class_ 67), (0, u "java/lang/Object")] 63

/-- java/lang/CharSequence -/
def k7 : Class := { plain "java/lang/CharSequence" (some 0) with
  accessFlags := 1537
  interfaces := #[]
  cf := some (fileOf pool7 2 #[.nestMembers #[47, 59]] #[] 1537 66 #[] #[])
  fields := #[]
  methods := #[]
  instanceTypes := #[]
  staticTypes := #[]
  resolved := Array.replicate 131 none
  statics := none }

def pool8 : Array CpInfo := pool [(1, .class_ 2), (0, u "java/lang/constant/ConstantDesc"), (0, .class_ 4), (0, u "java/lang/Object")] 32

/-- java/lang/constant/ConstantDesc -/
def k8 : Class := { plain "java/lang/constant/ConstantDesc" (some 0) with
  accessFlags := 1537
  interfaces := #[]
  cf := some (fileOf pool8 1 #[] #[] 1537 3 #[] #[])
  fields := #[]
  methods := #[]
  instanceTypes := #[]
  staticTypes := #[]
  resolved := Array.replicate 37 none
  statics := none }

def pool9 : Array CpInfo := pool [(1, .methodref 2 3), (0, .class_ 4), (0, .nameAndType 5 6), (0, u "java/lang/Object"), (0, u "<init>"), (0, u "()V"), (2, .fieldref 10 11), (0, .class_ 12), (0, .nameAndType 13 14), (0, u "java/lang/String"), (0, u "value"), (0, u "[B"), (0, .fieldref 10 16), (0, .nameAndType 17 18), (0, u "coder"), (0, u "B"), (2, u "hash"), (0, u "I"), (2, u "hashIsZero"), (0, u "Z"), (0, .methodref 10 28), (0, .nameAndType 5 29), (0, u "([CIILjava/lang/Void;)V"), (8, .fieldref 10 39), (0, .nameAndType 40 26), (0, u "COMPACT_STRINGS"), (1, .class_ 44), (1, u "java/lang/StringUTF16"), (0, u "compress"), (1, .methodref 42 48), (0, .nameAndType 49 50), (0, u "coderFromArrayLen"), (0, u "([BI)B"), (56, .class_ 109), (1, u "java/lang/StringLatin1"), (67, .methodref 42 178), (0, .nameAndType 45 179), (0, u "([CII)[B"), (361, .methodref 107 542), (0, .nameAndType 543 544), (0, u "equals"), (0, u "([B[B)Z"), (28, u "(Ljava/lang/Object;)Z"), (1, .class_ 576), (0, u "java/lang/CharSequence"), (22, u "CASE_INSENSITIVE_ORDER"), (0, u "Ljava/util/Comparator;"), (409, u "([C)V"), (90, u "serialPersistentFields"), (0, u "[Ljava/io/ObjectStreamField;"), (0, .class_ 1104), (0, u "java/lang/String$CaseInsensitiveComparator"), (1, .class_ 1107), (0, u "java/io/Serializable"), (0, .class_ 1109), (0, u "java/lang/Comparable"), (0, .class_ 1111), (0, u "java/lang/constant/Constable"), (0, .class_ 1113), (0, u "java/lang/constant/ConstantDesc"), (2, u "serialVersionUID"), (0, u "J"), (3, u "REPL"), (0, u "C"), (2, u "LATIN1"), (1, u "UTF16")] 323

def k9m0 : Method := { name := "<init>", desc := "()V", sig := { parameters := [], returnType := none }, accessFlags := 1, code := none }
def k9c1 : Code := { maxStack := 5, maxLocals := 2, code := jdk_42_method_3_code, exceptionTable := #[], attributes := #[] }
def k9m1 : Method := { name := "<init>", desc := "([C)V", sig := { parameters := [(.array .char)], returnType := none }, accessFlags := 1, code := some k9c1 }
def k9c2 : Code := { maxStack := 2, maxLocals := 3, code := jdk_42_method_66_code, exceptionTable := #[], attributes := #[] }
def k9m2 : Method := { name := "equals", desc := "(Ljava/lang/Object;)Z", sig := { parameters := [(.object "java/lang/Object")], returnType := some .boolean }, accessFlags := 1, code := some k9c2 }
def k9c3 : Code := { maxStack := 4, maxLocals := 6, code := jdk_42_method_149_code, exceptionTable := #[], attributes := #[] }
def k9m3 : Method := { name := "<init>", desc := "([CIILjava/lang/Void;)V", sig := { parameters := [(.array .char), .int, .int, (.object "java/lang/Void")], returnType := none }, accessFlags := 2, code := some k9c3 }
/-- java/lang/String -/
def k9 : Class := { plain "java/lang/String" (some 0) with
  accessFlags := 49
  interfaces := #[4, 3, 7, 2, 8]
  cf := some (fileOf pool9 10 #[.nestMembers #[1103]] #[{ accessFlags := 1, nameIndex := 5, descriptorIndex := 6, attributes := #[] }, { accessFlags := 1, nameIndex := 5, descriptorIndex := 1010, attributes := #[] }, { accessFlags := 1, nameIndex := 543, descriptorIndex := 573, attributes := #[] }, { accessFlags := 2, nameIndex := 5, descriptorIndex := 29, attributes := #[] }] 49 2 #[1106, 1108, 575, 1110, 1112] #[{ accessFlags := 18, nameIndex := 13, descriptorIndex := 14, attributes := #[] }, { accessFlags := 18, nameIndex := 17, descriptorIndex := 18, attributes := #[] }, { accessFlags := 2, nameIndex := 21, descriptorIndex := 22, attributes := #[] }, { accessFlags := 2, nameIndex := 25, descriptorIndex := 26, attributes := #[] }, { accessFlags := 26, nameIndex := 1116, descriptorIndex := 1117, attributes := #[] }, { accessFlags := 24, nameIndex := 40, descriptorIndex := 26, attributes := #[] }, { accessFlags := 26, nameIndex := 1101, descriptorIndex := 1102, attributes := #[] }, { accessFlags := 26, nameIndex := 1121, descriptorIndex := 1122, attributes := #[] }, { accessFlags := 25, nameIndex := 599, descriptorIndex := 600, attributes := #[] }, { accessFlags := 24, nameIndex := 1125, descriptorIndex := 18, attributes := #[] }, { accessFlags := 24, nameIndex := 1127, descriptorIndex := 18, attributes := #[] }])
  fields := #[{ name := "value", type := (.array .byte), accessFlags := 18, slot := 0, constantValue := 0 }, { name := "coder", type := .byte, accessFlags := 18, slot := 1, constantValue := 0 }, { name := "hash", type := .int, accessFlags := 2, slot := 2, constantValue := 0 }, { name := "hashIsZero", type := .boolean, accessFlags := 2, slot := 3, constantValue := 0 }, { name := "serialVersionUID", type := .long, accessFlags := 26, slot := 0, constantValue := 0 }, { name := "COMPACT_STRINGS", type := .boolean, accessFlags := 24, slot := 1, constantValue := 0 }, { name := "serialPersistentFields", type := (.array (.object "java/io/ObjectStreamField")), accessFlags := 26, slot := 2, constantValue := 0 }, { name := "REPL", type := .char, accessFlags := 26, slot := 3, constantValue := 0 }, { name := "CASE_INSENSITIVE_ORDER", type := (.object "java/util/Comparator"), accessFlags := 25, slot := 4, constantValue := 0 }, { name := "LATIN1", type := .byte, accessFlags := 24, slot := 5, constantValue := 0 }, { name := "UTF16", type := .byte, accessFlags := 24, slot := 6, constantValue := 0 }]
  methods := #[k9m0, k9m1, k9m2, k9m3]
  instanceTypes := #[(.array .byte), .byte, .int, .boolean]
  staticTypes := #[.long, .boolean, (.array (.object "java/io/ObjectStreamField")), .char, (.object "java/util/Comparator"), .byte, .byte]
  resolved := Array.replicate 1451 none
  statics := some 1 }

def pool10 : Array CpInfo := pool [(6, .class_ 8), (1, u "java/lang/Object"), (0, u "<init>"), (0, u "()V"), (1, .class_ 14), (1, u "java/lang/StringUTF16"), (31, u "$assertionsDisabled"), (0, u "Z"), (13, u "HI_BYTE_SHIFT"), (0, u "I"), (2, u "LO_BYTE_SHIFT"), (49, .methodref 12 116), (0, .nameAndType 117 118), (0, u "compress"), (0, u "([CI[BII)I"), (3, u "([CII)[B"), (138, u "coderFromArrayLen"), (0, u "([BI)B"), (106, .class_ 371), (1, u "java/lang/StringUTF16$LinesSpliterator"), (58, u "MAX_LENGTH"), (196, .class_ 628), (0, u "java/lang/StringUTF16$CodePointsSpliterator"), (0, .class_ 630), (0, u "java/lang/StringUTF16$CharsSpliterator")] 4

def k10m0 : Method := { name := "<init>", desc := "()V", sig := { parameters := [], returnType := none }, accessFlags := 0, code := none }
def k10c1 : Code := { maxStack := 2, maxLocals := 2, code := jdk_52_method_15_code, exceptionTable := #[], attributes := #[] }
def k10m1 : Method := { name := "coderFromArrayLen", desc := "([BI)B", sig := { parameters := [(.array .byte), .int], returnType := some .byte }, accessFlags := 8, code := some k10c1 }
def k10c2 : Code := { maxStack := 5, maxLocals := 6, code := jdk_52_method_16_code, exceptionTable := #[], attributes := #[] }
def k10m2 : Method := { name := "compress", desc := "([CII)[B", sig := { parameters := [(.array .char), .int, .int], returnType := some (.array .byte) }, accessFlags := 9, code := some k10c2 }
def k10c3 : Code := { maxStack := 3, maxLocals := 7, code := jdk_52_method_21_code, exceptionTable := #[], attributes := #[] }
def k10m3 : Method := { name := "compress", desc := "([CI[BII)I", sig := { parameters := [(.array .char), .int, (.array .byte), .int, .int], returnType := some .int }, accessFlags := 9, code := some k10c3 }
/-- java/lang/StringUTF16 -/
def k10 : Class := { plain "java/lang/StringUTF16" (some 0) with
  accessFlags := 48
  interfaces := #[]
  cf := some (fileOf pool10 12 #[.nestMembers #[627, 629, 369]] #[{ accessFlags := 0, nameIndex := 9, descriptorIndex := 10, attributes := #[] }, { accessFlags := 8, nameIndex := 261, descriptorIndex := 262, attributes := #[] }, { accessFlags := 9, nameIndex := 117, descriptorIndex := 122, attributes := #[] }, { accessFlags := 9, nameIndex := 117, descriptorIndex := 118, attributes := #[] }] 48 6 #[] #[{ accessFlags := 26, nameIndex := 61, descriptorIndex := 62, attributes := #[] }, { accessFlags := 26, nameIndex := 65, descriptorIndex := 62, attributes := #[] }, { accessFlags := 24, nameIndex := 430, descriptorIndex := 62, attributes := #[] }, { accessFlags := 4120, nameIndex := 46, descriptorIndex := 47, attributes := #[] }])
  fields := #[{ name := "HI_BYTE_SHIFT", type := .int, accessFlags := 26, slot := 0, constantValue := 0 }, { name := "LO_BYTE_SHIFT", type := .int, accessFlags := 26, slot := 1, constantValue := 0 }, { name := "MAX_LENGTH", type := .int, accessFlags := 24, slot := 2, constantValue := 0 }, { name := "$assertionsDisabled", type := .boolean, accessFlags := 4120, slot := 3, constantValue := 0 }]
  methods := #[k10m0, k10m1, k10m2, k10m3]
  instanceTypes := #[]
  staticTypes := #[.int, .int, .int, .boolean]
  resolved := Array.replicate 635 none
  statics := none }

def pool11 : Array CpInfo := pool [(1, .class_ 2), (0, u "java/lang/Cloneable"), (0, .class_ 4), (0, u "java/lang/Object")] 2

/-- java/lang/Cloneable -/
def k11 : Class := { plain "java/lang/Cloneable" (some 0) with
  accessFlags := 1537
  interfaces := #[]
  cf := some (fileOf pool11 1 #[] #[] 1537 3 #[] #[])
  fields := #[]
  methods := #[]
  instanceTypes := #[]
  staticTypes := #[]
  resolved := Array.replicate 7 none
  statics := none }

def pool12 : Array CpInfo := pool [(4, .class_ 6), (1, u "java/lang/Object"), (0, u "<init>"), (0, u "()V"), (5, .class_ 16), (1, u "java/lang/StringLatin1"), (104, u "$assertionsDisabled"), (0, u "Z"), (98, .class_ 223), (1, u "java/lang/StringLatin1$LinesSpliterator"), (57, u "equals"), (0, u "([B[B)Z"), (107, .class_ 391), (0, u "java/lang/StringLatin1$CharsSpliterator")] 3

def k12m0 : Method := { name := "<init>", desc := "()V", sig := { parameters := [], returnType := none }, accessFlags := 0, code := none }
def k12c1 : Code := { maxStack := 3, maxLocals := 3, code := jdk_43_method_13_code, exceptionTable := #[], attributes := #[] }
def k12m1 : Method := { name := "equals", desc := "([B[B)Z", sig := { parameters := [(.array .byte), (.array .byte)], returnType := some .boolean }, accessFlags := 9, code := some k12c1 }
/-- java/lang/StringLatin1 -/
def k12 : Class := { plain "java/lang/StringLatin1" (some 0) with
  accessFlags := 48
  interfaces := #[]
  cf := some (fileOf pool12 14 #[.nestMembers #[390, 221]] #[{ accessFlags := 0, nameIndex := 7, descriptorIndex := 8, attributes := #[] }, { accessFlags := 9, nameIndex := 281, descriptorIndex := 282, attributes := #[] }] 48 4 #[] #[{ accessFlags := 4120, nameIndex := 121, descriptorIndex := 122, attributes := #[] }])
  fields := #[{ name := "$assertionsDisabled", type := .boolean, accessFlags := 4120, slot := 0, constantValue := 0 }]
  methods := #[k12m0, k12m1]
  instanceTypes := #[]
  staticTypes := #[.boolean]
  resolved := Array.replicate 395 none
  statics := none }

def pool13 : Array CpInfo := pool [(2, .class_ 4), (1, u "java/lang/Object"), (0, u "<init>"), (0, u "()V"), (17, .class_ 26), (1, u "jdk/internal/util/Preconditions"), (28, .class_ 56), (0, u "jdk/internal/util/Preconditions$4"), (57, .class_ 115), (0, u "jdk/internal/util/Preconditions$1"), (7, u "SIOOBE_FORMATTER"), (0, u "Ljava/util/function/BiFunction;"), (0, .class_ 126), (0, u "jdk/internal/util/Preconditions$2"), (3, u "AIOOBE_FORMATTER"), (0, .class_ 132), (0, u "jdk/internal/util/Preconditions$3"), (3, u "IOOBE_FORMATTER")] 57

def k13m0 : Method := { name := "<init>", desc := "()V", sig := { parameters := [], returnType := none }, accessFlags := 1, code := none }
/-- jdk/internal/util/Preconditions -/
def k13 : Class := { plain "jdk/internal/util/Preconditions" (some 0) with
  accessFlags := 33
  interfaces := #[]
  cf := some (fileOf pool13 24 #[.nestMembers #[55, 131, 125, 114]] #[{ accessFlags := 1, nameIndex := 5, descriptorIndex := 6, attributes := #[] }] 33 2 #[] #[{ accessFlags := 25, nameIndex := 123, descriptorIndex := 124, attributes := #[] }, { accessFlags := 25, nameIndex := 130, descriptorIndex := 124, attributes := #[] }, { accessFlags := 25, nameIndex := 136, descriptorIndex := 124, attributes := #[] }])
  fields := #[{ name := "SIOOBE_FORMATTER", type := (.object "java/util/function/BiFunction"), accessFlags := 25, slot := 0, constantValue := 0 }, { name := "AIOOBE_FORMATTER", type := (.object "java/util/function/BiFunction"), accessFlags := 25, slot := 1, constantValue := 0 }, { name := "IOOBE_FORMATTER", type := (.object "java/util/function/BiFunction"), accessFlags := 25, slot := 2, constantValue := 0 }]
  methods := #[k13m0]
  instanceTypes := #[]
  staticTypes := #[(.object "java/util/function/BiFunction"), (.object "java/util/function/BiFunction"), (.object "java/util/function/BiFunction")]
  resolved := Array.replicate 194 none
  statics := some 2 }

def pool14 : Array CpInfo := pool [(9, u "<init>"), (6, .class_ 18), (1, u "java/lang/Object"), (0, u "()V"), (1, .class_ 23), (1, u "jdk/internal/util/ArraysSupport"), (0, u "LOG2_ARRAY_LONG_INDEX_SCALE"), (0, u "I"), (2, u "U"), (0, u "Ljdk/internal/misc/Unsafe;"), (8, u "BIG_ENDIAN"), (0, u "Z"), (8, u "LOG2_BYTE_BIT_SIZE"), (4, u "LOG2_ARRAY_INT_INDEX_SCALE"), (54, u "JLA"), (0, u "Ljdk/internal/access/JavaLangAccess;"), (11, u "LOG2_ARRAY_BOOLEAN_INDEX_SCALE"), (9, u "LOG2_ARRAY_BYTE_INDEX_SCALE"), (5, u "LOG2_ARRAY_CHAR_INDEX_SCALE"), (5, u "LOG2_ARRAY_SHORT_INDEX_SCALE"), (18, u "LOG2_ARRAY_FLOAT_INDEX_SCALE"), (24, u "LOG2_ARRAY_DOUBLE_INDEX_SCALE"), (89, u "T_BOOLEAN"), (2, u "T_CHAR"), (1, u "T_FLOAT"), (1, u "T_DOUBLE"), (1, u "T_BYTE"), (1, u "T_SHORT"), (1, u "T_INT"), (1, u "T_LONG"), (1, u "SOFT_MAX_ARRAY_LENGTH")] 83

def k14m0 : Method := { name := "<init>", desc := "()V", sig := { parameters := [], returnType := none }, accessFlags := 2, code := none }
/-- jdk/internal/util/ArraysSupport -/
def k14 : Class := { plain "jdk/internal/util/ArraysSupport" (some 0) with
  accessFlags := 33
  interfaces := #[]
  cf := some (fileOf pool14 21 #[] #[{ accessFlags := 2, nameIndex := 9, descriptorIndex := 19, attributes := #[] }] 33 16 #[] #[{ accessFlags := 24, nameIndex := 28, descriptorIndex := 29, attributes := #[] }, { accessFlags := 26, nameIndex := 38, descriptorIndex := 39, attributes := #[] }, { accessFlags := 25, nameIndex := 121, descriptorIndex := 25, attributes := #[] }, { accessFlags := 25, nameIndex := 131, descriptorIndex := 25, attributes := #[] }, { accessFlags := 25, nameIndex := 137, descriptorIndex := 25, attributes := #[] }, { accessFlags := 25, nameIndex := 143, descriptorIndex := 25, attributes := #[] }, { accessFlags := 25, nameIndex := 53, descriptorIndex := 25, attributes := #[] }, { accessFlags := 25, nameIndex := 24, descriptorIndex := 25, attributes := #[] }, { accessFlags := 25, nameIndex := 162, descriptorIndex := 25, attributes := #[] }, { accessFlags := 25, nameIndex := 187, descriptorIndex := 25, attributes := #[] }, { accessFlags := 26, nameIndex := 48, descriptorIndex := 25, attributes := #[] }, { accessFlags := 25, nameIndex := 277, descriptorIndex := 25, attributes := #[] }, { accessFlags := 25, nameIndex := 280, descriptorIndex := 25, attributes := #[] }, { accessFlags := 25, nameIndex := 282, descriptorIndex := 25, attributes := #[] }, { accessFlags := 25, nameIndex := 284, descriptorIndex := 25, attributes := #[] }, { accessFlags := 25, nameIndex := 286, descriptorIndex := 25, attributes := #[] }, { accessFlags := 25, nameIndex := 288, descriptorIndex := 25, attributes := #[] }, { accessFlags := 25, nameIndex := 290, descriptorIndex := 25, attributes := #[] }, { accessFlags := 25, nameIndex := 292, descriptorIndex := 25, attributes := #[] }, { accessFlags := 26, nameIndex := 108, descriptorIndex := 109, attributes := #[] }, { accessFlags := 25, nameIndex := 294, descriptorIndex := 25, attributes := #[] }])
  fields := #[{ name := "U", type := (.object "jdk/internal/misc/Unsafe"), accessFlags := 24, slot := 0, constantValue := 0 }, { name := "BIG_ENDIAN", type := .boolean, accessFlags := 26, slot := 1, constantValue := 0 }, { name := "LOG2_ARRAY_BOOLEAN_INDEX_SCALE", type := .int, accessFlags := 25, slot := 2, constantValue := 0 }, { name := "LOG2_ARRAY_BYTE_INDEX_SCALE", type := .int, accessFlags := 25, slot := 3, constantValue := 0 }, { name := "LOG2_ARRAY_CHAR_INDEX_SCALE", type := .int, accessFlags := 25, slot := 4, constantValue := 0 }, { name := "LOG2_ARRAY_SHORT_INDEX_SCALE", type := .int, accessFlags := 25, slot := 5, constantValue := 0 }, { name := "LOG2_ARRAY_INT_INDEX_SCALE", type := .int, accessFlags := 25, slot := 6, constantValue := 0 }, { name := "LOG2_ARRAY_LONG_INDEX_SCALE", type := .int, accessFlags := 25, slot := 7, constantValue := 0 }, { name := "LOG2_ARRAY_FLOAT_INDEX_SCALE", type := .int, accessFlags := 25, slot := 8, constantValue := 0 }, { name := "LOG2_ARRAY_DOUBLE_INDEX_SCALE", type := .int, accessFlags := 25, slot := 9, constantValue := 0 }, { name := "LOG2_BYTE_BIT_SIZE", type := .int, accessFlags := 26, slot := 10, constantValue := 0 }, { name := "T_BOOLEAN", type := .int, accessFlags := 25, slot := 11, constantValue := 0 }, { name := "T_CHAR", type := .int, accessFlags := 25, slot := 12, constantValue := 0 }, { name := "T_FLOAT", type := .int, accessFlags := 25, slot := 13, constantValue := 0 }, { name := "T_DOUBLE", type := .int, accessFlags := 25, slot := 14, constantValue := 0 }, { name := "T_BYTE", type := .int, accessFlags := 25, slot := 15, constantValue := 0 }, { name := "T_SHORT", type := .int, accessFlags := 25, slot := 16, constantValue := 0 }, { name := "T_INT", type := .int, accessFlags := 25, slot := 17, constantValue := 0 }, { name := "T_LONG", type := .int, accessFlags := 25, slot := 18, constantValue := 0 }, { name := "JLA", type := (.object "jdk/internal/access/JavaLangAccess"), accessFlags := 26, slot := 19, constantValue := 0 }, { name := "SOFT_MAX_ARRAY_LENGTH", type := .int, accessFlags := 25, slot := 20, constantValue := 0 }]
  methods := #[k14m0]
  instanceTypes := #[]
  staticTypes := #[(.object "jdk/internal/misc/Unsafe"), .boolean, .int, .int, .int, .int, .int, .int, .int, .int, .int, .int, .int, .int, .int, .int, .int, .int, .int, (.object "jdk/internal/access/JavaLangAccess"), .int]
  resolved := Array.replicate 378 none
  statics := none }

/-- the primitive byte -/
def k15 : Class := { plain "byte" none with kind := .primitive 'B', accessFlags := 0x411 }
/-- [B -/
def k16 : Class := { plain "[B" (some 0) with kind := .array 15 .byte, interfaces := #[11, 4], accessFlags := 1041 }

/-- the primitive char -/
def k17 : Class := { plain "char" none with kind := .primitive 'C', accessFlags := 0x411 }
/-- [C -/
def k18 : Class := { plain "[C" (some 0) with kind := .array 17 .char, interfaces := #[11, 4], accessFlags := 1041 }

/-- the primitive int -/
def k19 : Class := { plain "int" none with kind := .primitive 'I', accessFlags := 0x411 }
/-- [I -/
def k20 : Class := { plain "[I" (some 0) with kind := .array 19 .int, interfaces := #[11, 4], accessFlags := 1041 }

/-- [Lcom/example/driftmark/driftmark/TradeKind; -/
def k21 : Class := { plain "[Lcom/example/driftmark/driftmark/TradeKind;" (some 0) with kind := .array 6 (.object "com/example/driftmark/driftmark/TradeKind"), interfaces := #[11, 4], accessFlags := 1041 }

def heap : Heap := #[{ cls := 6, slots := #[.ref 4, .ref 5, .ref 6, .ref 3], vm := .statics 6 },
  { cls := 9, slots := #[.long 0, .int 1, .null, .int 0, .null, .int 0, .int 0], vm := .statics 9 },
  { cls := 13, slots := #[.null, .null, .null], vm := .statics 13 },
  { cls := 21, slots := #[.ref 4, .ref 5, .ref 6], vm := .none },
  { cls := 6, slots := #[.null, .int 0, .int 0, .ref 7, .int 0], vm := .none },
  { cls := 6, slots := #[.null, .int 1, .int 0, .ref 8, .int 0], vm := .none },
  { cls := 6, slots := #[.null, .int 2, .int 0, .ref 9, .int 0], vm := .none },
  { cls := 9, slots := #[.ref 10, .int 0, .int 0, .int 0], vm := .none },
  { cls := 9, slots := #[.ref 11, .int 0, .int 0, .int 0], vm := .none },
  { cls := 9, slots := #[.ref 12, .int 0, .int 0, .int 0], vm := .none },
  { cls := 16, slots := #[.int 97, .int 117, .int 99, .int 116, .int 105, .int 111, .int 110], vm := .none },
  { cls := 16, slots := #[.int 114, .int 101, .int 99, .int 111, .int 110, .int 102, .int 105, .int 103, .int 117, .int 114, .int 97, .int 116, .int 105, .int 111, .int 110], vm := .none },
  { cls := 16, slots := #[.int 97, .int 115, .int 115, .int 105, .int 103, .int 110, .int 109, .int 101, .int 110, .int 116], vm := .none }]
def classes : Array Class := #[k0, k1, k2, k3, k4, k5, k6, k7, k8, k9, k10, k11, k12, k13, k14, k15, k16, k17, k18, k19, k20, k21]
def interned : List (Array UInt16 × Addr) := []
def slotsUsed : Nat := 76
def theMethod : MethodId := ⟨1, 1⟩
def args0 : Array Value := #[.int 5]
def aboutOver (below : List Frame) : State where
  vm := { classes := classes, interned := interned.toArray }
  heap := heap
  slotsUsed := slotsUsed
  threads := #[{ frames := .invoking theMethod args0 :: below }]
def below0 : List Frame := [.native { method := ⟨0, 0⟩, args := #[] }]
def about1 : State := aboutOver below0
def p0 : Program := .bare "" "" ""
def e0 : Env := launch0.env 0 0 0
theorem w_frames : about1.frames = Frame.invoking theMethod args0 :: below0 := rfl
set_option maxRecDepth 65536 in
theorem w_args : argsFit about1.vm theMethod args0 = true := by decide +kernel
set_option maxRecDepth 65536 in
theorem w_heap : heapFits about1 = true := by decide +kernel
set_option maxRecDepth 65536 in
theorem w_runnable : about1.curStatus? = some .runnable := by decide +kernel
set_option maxRecDepth 65536 in
theorem w_alone : about1.alone = true := by decide +kernel
set_option maxRecDepth 65536 in
theorem w_named : about1.methodNamed? x = some theMethod := by decide +kernel
set_option maxRecDepth 65536 in
theorem w_hears : about1.hears theMethod below0 = true := by decide +kernel
set_option maxRecDepth 65536 in
theorem w_ripe : about1.ripe theMethod args0 below0 = true := by decide +kernel
theorem w_running : about1.status = .running := rfl
set_option maxRecDepth 65536 in
theorem w_room : about1.hasRoom e0.platform room_1 = true :=
  launch0.hasRoom_least _ room_1 (by decide +kernel) (by decide +kernel) (by decide +kernel) (by decide +kernel) (by decide +kernel) (by decide +kernel)
theorem allAtoms_all (ts : List Jvm.Cond) (a : Array Jvm.Value) (st : Jvm.State) : (allAtoms ts).before a st = ts.all (fun c => c.before a st) := by
  induction ts with
  | nil => rfl
  | cons c t ih =>
    show (Jvm.Cond.and c (allAtoms t)).before a st = _
    rw [Jvm.Cond.before_and, ih, List.all_cons]
def words1 : List Jvm.Cond := Jvm.Cond.code x code maxLocals ret :: tables_1
/-- a 'code' word, met by the world's own term for the bytes: nothing is compared byte by byte -/
theorem code_word {y : MethodName} {bytes : ByteArray} {mx : Nat} {rt : Option FieldType} {a : Array Value} {s : State} {m : MethodId} {meth : Method} {c : Code} (h1 : s.methodNamed? y = some m) (h2 : s.vm.method? m = some meth) (h3 : meth.code = some c) (h4 : c.code = bytes)
    (h5 : (c.maxLocals == mx && c.exceptionTable.isEmpty && decide (c.maxStack ≤ mostOperands) && decide (meth.sig.returnType = rt) && !meth.locks && decide (parseMethodDescriptor y.desc = some meth.sig)) = true) : (Jvm.Cond.code y bytes mx rt).before a s = true := by
  simp only [Bool.and_eq_true, beq_iff_eq, Bool.not_eq_true', decide_eq_true_eq] at h5
  obtain ⟨⟨⟨⟨⟨g1, g2⟩, g3⟩, g4⟩, g5⟩, g6⟩ := h5
  simp [Cond.before, Cond.holds, Cond.value, h1, h2, h3, h4, g1, g2, g3, g4, g5, g6]
def isCode : Jvm.Cond → Bool
  | .code _ _ _ _ => true
  | _ => false
theorem all_split {L : List Jvm.Cond} {P : Jvm.Cond → Bool} (h1 : L.all (fun c => isCode c || P c) = true) (h2 : ∀ c ∈ L.filter isCode, P c = true) : L.all P = true := by
  refine List.all_eq_true.mpr fun c hc => ?_
  have h := List.all_eq_true.mp h1 c hc
  rcases Bool.eq_false_or_eq_true (isCode c) with hi | hi
  · exact h2 c (List.mem_filter.mpr ⟨hc, hi⟩)
  · simpa [hi] using h
set_option maxRecDepth 65536 in
theorem w_c0 : (Jvm.Cond.code x code maxLocals ret).before args0 about1 = true := code_word (m := ⟨1, 1⟩) (meth := k1m1) (c := k1c1) (by decide +kernel) rfl rfl rfl (by decide +kernel)
set_option maxRecDepth 65536 in
theorem w_c1 : (Jvm.Cond.code ({ cls := "java/lang/String", name := "<init>", desc := "([C)V" } : Jvm.MethodName) jdk_42_method_3_code (2 : Nat) (Option.none : Option Jvm.ClassFile.FieldType)).before args0 about1 = true := code_word (m := ⟨9, 1⟩) (meth := k9m1) (c := k9c1) (by decide +kernel) rfl rfl rfl (by decide +kernel)
set_option maxRecDepth 65536 in
theorem w_c2 : (Jvm.Cond.code ({ cls := "java/lang/String", name := "<init>", desc := "([CIILjava/lang/Void;)V" } : Jvm.MethodName) jdk_42_method_149_code (6 : Nat) (Option.none : Option Jvm.ClassFile.FieldType)).before args0 about1 = true := code_word (m := ⟨9, 3⟩) (meth := k9m3) (c := k9c3) (by decide +kernel) rfl rfl rfl (by decide +kernel)
set_option maxRecDepth 65536 in
theorem w_c3 : (Jvm.Cond.code ({ cls := "java/lang/Object", name := "<init>", desc := "()V" } : Jvm.MethodName) object_method_1_code (1 : Nat) (Option.none : Option Jvm.ClassFile.FieldType)).before args0 about1 = true := code_word (m := ⟨0, 0⟩) (meth := k0m0) (c := k0c0) (by decide +kernel) rfl rfl rfl (by decide +kernel)
set_option maxRecDepth 65536 in
theorem w_c4 : (Jvm.Cond.code ({ cls := "java/lang/StringUTF16", name := "compress", desc := "([CII)[B" } : Jvm.MethodName) jdk_52_method_16_code (6 : Nat) (Option.some (Jvm.ClassFile.FieldType.array Jvm.ClassFile.FieldType.byte))).before args0 about1 = true := code_word (m := ⟨10, 2⟩) (meth := k10m2) (c := k10c2) (by decide +kernel) rfl rfl rfl (by decide +kernel)
set_option maxRecDepth 65536 in
theorem w_c5 : (Jvm.Cond.code ({ cls := "java/lang/StringUTF16", name := "compress", desc := "([CI[BII)I" } : Jvm.MethodName) jdk_52_method_21_code (7 : Nat) (Option.some Jvm.ClassFile.FieldType.int)).before args0 about1 = true := code_word (m := ⟨10, 3⟩) (meth := k10m3) (c := k10c3) (by decide +kernel) rfl rfl rfl (by decide +kernel)
set_option maxRecDepth 65536 in
theorem w_c6 : (Jvm.Cond.code ({ cls := "java/lang/StringUTF16", name := "coderFromArrayLen", desc := "([BI)B" } : Jvm.MethodName) jdk_52_method_15_code (2 : Nat) (Option.some Jvm.ClassFile.FieldType.byte)).before args0 about1 = true := code_word (m := ⟨10, 1⟩) (meth := k10m1) (c := k10c1) (by decide +kernel) rfl rfl rfl (by decide +kernel)
set_option maxRecDepth 65536 in
theorem w_c7 : (Jvm.Cond.code ({ cls := "com/example/driftmark/driftmark/TradeKind", name := "parse", desc := "(Ljava/lang/String;)Lcom/example/driftmark/driftmark/TradeKind;" } : Jvm.MethodName) prog_19_method_4_code (5 : Nat) (Option.some (Jvm.ClassFile.FieldType.object "com/example/driftmark/driftmark/TradeKind"))).before args0 about1 = true := code_word (m := ⟨6, 1⟩) (meth := k6m1) (c := k6c1) (by decide +kernel) rfl rfl rfl (by decide +kernel)
set_option maxRecDepth 65536 in
theorem w_c8 : (Jvm.Cond.code ({ cls := "com/example/driftmark/driftmark/TradeKind", name := "values", desc := "()[Lcom/example/driftmark/driftmark/TradeKind;" } : Jvm.MethodName) prog_19_method_1_code (0 : Nat) (Option.some (Jvm.ClassFile.FieldType.array (Jvm.ClassFile.FieldType.object "com/example/driftmark/driftmark/TradeKind")))).before args0 about1 = true := code_word (m := ⟨6, 0⟩) (meth := k6m0) (c := k6c0) (by decide +kernel) rfl rfl rfl (by decide +kernel)
set_option maxRecDepth 65536 in
theorem w_c9 : (Jvm.Cond.code ({ cls := "java/lang/String", name := "equals", desc := "(Ljava/lang/Object;)Z" } : Jvm.MethodName) jdk_42_method_66_code (3 : Nat) (Option.some Jvm.ClassFile.FieldType.boolean)).before args0 about1 = true := code_word (m := ⟨9, 2⟩) (meth := k9m2) (c := k9c2) (by decide +kernel) rfl rfl rfl (by decide +kernel)
set_option maxRecDepth 65536 in
theorem w_c10 : (Jvm.Cond.code ({ cls := "java/lang/StringLatin1", name := "equals", desc := "([B[B)Z" } : Jvm.MethodName) jdk_43_method_13_code (3 : Nat) (Option.some Jvm.ClassFile.FieldType.boolean)).before args0 about1 = true := code_word (m := ⟨12, 1⟩) (meth := k12m1) (c := k12c1) (by decide +kernel) rfl rfl rfl (by decide +kernel)
set_option maxRecDepth 65536 in
theorem w_c11 : (Jvm.Cond.code ({ cls := "com/example/driftmark/driftmark/TradeKind", name := "code", desc := "()Ljava/lang/String;" } : Jvm.MethodName) prog_19_method_6_code (1 : Nat) (Option.some (Jvm.ClassFile.FieldType.object "java/lang/String"))).before args0 about1 = true := code_word (m := ⟨6, 2⟩) (meth := k6m2) (c := k6c2) (by decide +kernel) rfl rfl rfl (by decide +kernel)
def codes1 : List Jvm.Cond := [Jvm.Cond.code x code maxLocals ret, Jvm.Cond.code ({ cls := "java/lang/String", name := "<init>", desc := "([C)V" } : Jvm.MethodName) jdk_42_method_3_code (2 : Nat) (Option.none : Option Jvm.ClassFile.FieldType), Jvm.Cond.code ({ cls := "java/lang/String", name := "<init>", desc := "([CIILjava/lang/Void;)V" } : Jvm.MethodName) jdk_42_method_149_code (6 : Nat) (Option.none : Option Jvm.ClassFile.FieldType), Jvm.Cond.code ({ cls := "java/lang/Object", name := "<init>", desc := "()V" } : Jvm.MethodName) object_method_1_code (1 : Nat) (Option.none : Option Jvm.ClassFile.FieldType), Jvm.Cond.code ({ cls := "java/lang/StringUTF16", name := "compress", desc := "([CII)[B" } : Jvm.MethodName) jdk_52_method_16_code (6 : Nat) (Option.some (Jvm.ClassFile.FieldType.array Jvm.ClassFile.FieldType.byte)), Jvm.Cond.code ({ cls := "java/lang/StringUTF16", name := "compress", desc := "([CI[BII)I" } : Jvm.MethodName) jdk_52_method_21_code (7 : Nat) (Option.some Jvm.ClassFile.FieldType.int), Jvm.Cond.code ({ cls := "java/lang/StringUTF16", name := "coderFromArrayLen", desc := "([BI)B" } : Jvm.MethodName) jdk_52_method_15_code (2 : Nat) (Option.some Jvm.ClassFile.FieldType.byte), Jvm.Cond.code ({ cls := "com/example/driftmark/driftmark/TradeKind", name := "parse", desc := "(Ljava/lang/String;)Lcom/example/driftmark/driftmark/TradeKind;" } : Jvm.MethodName) prog_19_method_4_code (5 : Nat) (Option.some (Jvm.ClassFile.FieldType.object "com/example/driftmark/driftmark/TradeKind")), Jvm.Cond.code ({ cls := "com/example/driftmark/driftmark/TradeKind", name := "values", desc := "()[Lcom/example/driftmark/driftmark/TradeKind;" } : Jvm.MethodName) prog_19_method_1_code (0 : Nat) (Option.some (Jvm.ClassFile.FieldType.array (Jvm.ClassFile.FieldType.object "com/example/driftmark/driftmark/TradeKind"))), Jvm.Cond.code ({ cls := "java/lang/String", name := "equals", desc := "(Ljava/lang/Object;)Z" } : Jvm.MethodName) jdk_42_method_66_code (3 : Nat) (Option.some Jvm.ClassFile.FieldType.boolean), Jvm.Cond.code ({ cls := "java/lang/StringLatin1", name := "equals", desc := "([B[B)Z" } : Jvm.MethodName) jdk_43_method_13_code (3 : Nat) (Option.some Jvm.ClassFile.FieldType.boolean), Jvm.Cond.code ({ cls := "com/example/driftmark/driftmark/TradeKind", name := "code", desc := "()Ljava/lang/String;" } : Jvm.MethodName) prog_19_method_6_code (1 : Nat) (Option.some (Jvm.ClassFile.FieldType.object "java/lang/String"))]
set_option maxRecDepth 65536 in
theorem codes_eq : words1.filter isCode = codes1 := rfl
theorem w_codes : ∀ c ∈ words1.filter isCode, c.before args0 about1 = true := by
  rw [codes_eq]
  intro c hc
  simp only [codes1, List.mem_cons, List.not_mem_nil, or_false] at hc
  rcases hc with rfl | rfl | rfl | rfl | rfl | rfl | rfl | rfl | rfl | rfl | rfl | rfl
  · exact w_c0
  · exact w_c1
  · exact w_c2
  · exact w_c3
  · exact w_c4
  · exact w_c5
  · exact w_c6
  · exact w_c7
  · exact w_c8
  · exact w_c9
  · exact w_c10
  · exact w_c11
set_option maxRecDepth 65536 in
theorem w_t1 : (words1.take 24).all (fun c => isCode c || c.before args0 about1) = true := by decide +kernel
set_option maxRecDepth 65536 in
theorem w_t2 : ((words1.drop 24).take 24).all (fun c => isCode c || c.before args0 about1) = true := by decide +kernel
set_option maxRecDepth 65536 in
theorem w_t3 : (((words1.drop 24).drop 24).take 24).all (fun c => isCode c || c.before args0 about1) = true := by decide +kernel
set_option maxRecDepth 65536 in
theorem w_t4 : (((words1.drop 24).drop 24).drop 24).all (fun c => isCode c || c.before args0 about1) = true := by decide +kernel
theorem w_tables : (allAtoms (Jvm.Cond.code x code maxLocals ret :: tables_1)).before args0 about1 = true := by
  rw [allAtoms_all]
  show words1.all (fun c => c.before args0 about1) = true
  refine all_split ?_ w_codes
  rw [← List.take_append_drop 24 words1, List.all_append, w_t1, ← List.take_append_drop 24 (words1.drop 24), List.all_append, w_t2, ← List.take_append_drop 24 ((words1.drop 24).drop 24), List.all_append, w_t3, w_t4]
  rfl
set_option maxRecDepth 65536 in
theorem w_rest : rest_1_c.before args0 about1 = true := by decide +kernel
set_option maxRecDepth 65536 in
theorem w_case : (Jvm.Cond.and given_1 narrow_1).before args0 about1 = true := by decide +kernel
theorem w_applies : (headSpec (Jvm.Cond.code x code maxLocals ret :: tables_1) room_1).applies x e0.platform about1 = true :=
  (Spec.applies_iff w_frames).mpr ⟨w_running, w_runnable, w_alone, w_named, w_hears, w_ripe, w_room, w_tables⟩
theorem atStart : AtStart classFile x code maxLocals ret World_1 tables_1 room_1 Calls_1 rest_1 Pre_1 launch0 p0 e0 about1 theMethod args0 below0 :=
  ⟨lists_1, trivial, launch0.admits_env _ _ _, launch0.least_env, fairChoices_fair.cas, fairChoices_fair.clock, w_frames, w_args, w_heap, w_applies, trivial, w_rest, w_case⟩
end start1
theorem witness_1 : WitnessClaimed_1 := ⟨start1.p0, start1.e0, start1.about1, start1.theMethod, start1.args0, start1.below0, start1.atStart⟩
end Jvm.Pilot.@@N@@
