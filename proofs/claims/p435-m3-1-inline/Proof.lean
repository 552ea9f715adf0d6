import JvmDerived
import JvmDerived.Pilot.@@N@@Statement
import JvmDerived.Pilot.@@N@@Code
set_option linter.unusedVariables false
set_option linter.unusedSimpArgs false
namespace Jvm.RoadKit
open Sem ClassFile Op Lib Jvm.Stand Jvm.Free Jvm.LawKit
section OwnKit
abbrev vI (x : Int32) : Slot := .val (.int x)
abbrev vR (a : Addr) : Slot := .val (.ref a)
variable {p : Program} {l : Launch} {e : Env} {R : Room} {s : State} {m : MethodId} {args : Array Value} {below : List Frame} {meth : Method} {c : Code} {T T' : State} {locs : List Loc} {cells slots : Nat} {g g' : JFrame} {P : State → Outcome → Prop} {Z : State} {h h' h2 : Heap} {a b : Addr} {sl : Nat} {v : Value}
def Rch (p : Program) (e : Env) (below : List Frame) (T : State) (g : JFrame) (P : State → Outcome → Prop) : Prop := ∃ s₂ o, Steps p.tables e below (T.setTop g) s₂ ∧ s₂.status = .running ∧ Ended s₂ below o ∧ P s₂ o
theorem Rch.st (st : ∀ t, Steps p.tables e below (T'.setTop g') t → Steps p.tables e below (T.setTop g) t) (r : Rch p e below T' g' P) : Rch p e below T g P := by
  obtain ⟨s₂, o, h1, h2⟩ := r
  exact ⟨s₂, o, st _ h1, h2⟩
theorem Rch.go (st : Steps p.tables e below (T.setTop g) (T'.setTop g')) (r : Rch p e below T' g' P) : Rch p e below T g P := Rch.st (fun _ k => st.trans k) r
theorem Rch.cast (q : g = g') (r : Rch p e below T g' P) : Rch p e below T g P := q ▸ r
theorem Rch.fin (X : Stand p l e R s m args below meth c T locs cells slots) {v : Option Value} (hv : meth.sig.returnType = none → v = none) (hlk : meth.locks = false) {Q : Option Value → Heap → List Loc → Prop} {k n : Nat}
    (hret : ∀ fs, (∀ (f : JFrame) (acts : List Action), f.method = m → f.locked = none → f.entered = [] → (doReturn e (T.setTop f) acts v).1 = T.setFrames fs) → Steps p.tables e below (T.setTop g) (T.setFrames fs))
    (hq : Q v T.heap locs) (hk : cells ≤ k) (hn : slots ≤ n) : Rch p e below T g (fun U o => ∃ v L, o = .returned v ∧ Q v U.heap L ∧ FrameEnd s o U L k n) := by
  obtain ⟨fs, hr, hrun, hended, hW, hsame⟩ := X.leave hv hlk
  exact ⟨_, _, hret fs hr, hrun, hended, _, _, rfl, hq, ⟨_, rfl⟩, hW, hsame.mono hk hn⟩
theorem Rch.finW {vm0 : Vm} {EL : List (String × Nat)} {a0 : Array Value} (X : Stand p l e R (s.setVm vm0) m args below meth c T locs cells slots) (hZ : Z.Warmed39 vm0) (hEL : EW Z a0 EL) {k0 : Nat} (hS : s.Since vm0 k0) (hk0 : k0 ≤ T.heap.size) (eT : T.heap = h) (hC : CHr Z EL s.vm s.heap vm0 h) {v : Option Value} (hv : meth.sig.returnType = none → v = none) (hlk : meth.locks = false) {Q : Option Value → Heap → List Loc → Prop} {k n : Nat}
    (hret : ∀ fs, (∀ (f : JFrame) (acts : List Action), f.method = m → f.locked = none → f.entered = [] → (doReturn e (T.setTop f) acts v).1 = T.setFrames fs) → Steps p.tables e below (T.setTop g) (T.setFrames fs))
    (hq : Q v T.heap locs) (hk : cells ≤ k) (hn : slots ≤ n) : Rch p e below T g (fun U o => ∃ v L, o = .returned v ∧ Q v U.heap L ∧ CHr Z EL s.vm s.heap U.vm U.heap ∧ ReturnedEndW s o U L k n) := by
  obtain ⟨fs, hr, hrun, hended, q1, q2, q3, q4⟩ := X.leaveW hS hk0 hv hlk
  subst eT
  exact ⟨_, _, hret fs hr, hrun, hended, _, _, rfl, hq, hC.trans (show CHr Z EL vm0 T.heap T.vm T.heap from CHv.at X hZ hEL hC.1), q1, q2, q3, q4.mono hk hn⟩
theorem retR (X : Stand p l e R s m args below meth c T locs cells slots) (hx : p.tables.exec = Jvm.exec) {pc : Nat} {Ls : Array Slot} {w : Value} {t : FieldType} {rest : List Value} (hret : meth.sig.returnType = some t) (ht : t.isReference = true) (hw : w.isRef = true) (hd : decode c.code pc = .ok (.areturn, 1)) {fs : List Frame}
    (hl : ∀ (f : JFrame) (acts : List Action), f.method = m → f.locked = none → f.entered = [] → (doReturn e (T.setTop f) acts (some w)).1 = T.setFrames fs) : Steps p.tables e below (T.setTop (mkF m pc Ls (w :: rest))) (T.setFrames fs) :=
  retOut X hx hret (by cases t <;> first | rfl | cases ht) (Or.inr (Or.inr (Or.inr (Or.inr ⟨rfl, ht, hw⟩)))) hd hl
theorem retI (X : Stand p l e R s m args below meth c T locs cells slots) (hx : p.tables.exec = Jvm.exec) {pc : Nat} {Ls : Array Slot} {z : Int32} {rest : List Value} (hret : meth.sig.returnType = some .int) (hd : decode c.code pc = .ok (.ireturn, 1)) {fs : List Frame}
    (hl : ∀ (f : JFrame) (acts : List Action), f.method = m → f.locked = none → f.entered = [] → (doReturn e (T.setTop f) acts (some (.int z))).1 = T.setFrames fs) : Steps p.tables e below (T.setTop (mkF m pc Ls (.int z :: rest))) (T.setFrames fs) :=
  retOut X hx hret rfl (Or.inl ⟨rfl, Or.inl rfl, _, rfl⟩) hd hl
theorem Ext.rf : Ext h h := ⟨Nat.le_refl _, fun _ _ q => q⟩
theorem Ext.tr (A : Ext h h') (B : Ext h' h2) : Ext h h2 := ⟨Nat.le_trans A.1 B.1, fun x c q => B.2 x c (A.2 x c q)⟩
theorem extKeep {ws : List Addr} (A : Ext h h') (K : Keep h' h2 ws) (q : ∀ x ∈ ws, h.size ≤ x) : Ext h h2 := ⟨Nat.le_trans A.1 K.1, fun x c r => K.2.1 x c (A.2 x c r) (fun z => absurd (Array.getElem?_eq_some_iff.mp r).1 (Nat.not_lt.mpr (q x z)))⟩
theorem extWr (A : Ext h h') (W : Wr h' h2 a sl v) (q : h.size ≤ a) : Ext h h2 := extKeep A (Keep.of_wr W) (allS q all0)
theorem extKeep1 (A : Ext h h') (K : Keep h' h2 [a]) (q : h.size ≤ a) : Ext h h2 := extKeep A K (allS q all0)
theorem Ext.keep (A : Ext h h') (ws : List Addr) : Keep h h' ws := ⟨A.1, fun x c q _ => A.2 x c q, fun x c q => ⟨c, A.2 x c q, rfl, rfl, rfl⟩⟩
theorem fr_app {k : Nat} {L L' : List Loc} (N : Fr k L) (N' : Fr k L') : Fr k (L ++ L') := Fr.app N N'
theorem stCv {n0 : Nat} (X : Stand p l e R s m args below meth c T locs cells slots) (hx : p.tables.exec = Jvm.exec) (hZ : Z.Warmed39 s.vm) (eT : T.heap = h) {k : ClassId} {z : Int32} {vs : List Value} (M : Arv Z h b k .char z vs (.int 0)) (N : Fr n0 locs) (hb : n0 ≤ b) {j x : Int32} (hj : ¬ j < 0 ∧ j < z) (i : Nat) (hi : j.toNatClampNeg = i) (hl : i < vs.length) {g : JFrame} (hg : g.method = m) {rest : List Value} (hs : g.stack = .int x :: .int j :: .ref b :: rest) (hd : decode c.code g.pc = .ok (.castore, 1)) :
    ∃ T' h' locs' sl, Stand p l e R s m args below meth c T' locs' cells slots ∧ T'.heap = h' ∧ Wr h h' b sl (.int (nar .char x)) ∧ Arv Z h' b k .char z (vs.set i (.int (nar .char x))) (.int 0) ∧ Fr n0 locs' ∧ ∀ target, Steps p.tables e below (T'.setTop { g with pc := g.pc + 1, stack := rest }) target → Steps p.tables e below (T.setTop g) target := by
  obtain ⟨cl, A, q1, S, q3, H, G⟩ := M
  obtain ⟨T', h', X', e', W, st⟩ := stC X hx hZ eT A (inb_of S hj) hg hs hd
  exact ⟨T', h', _, _, X', e', W, Arv.set A q1 S q3 H G (fits_nar_char _) W i hi hl, Fr.snoc X' N hb, st⟩
theorem aalA (X : Stand p l e R s m args below meth c T locs cells slots) (hx : p.tables.exec = Jvm.exec) (hZ : Z.Warmed39 s.vm) (eT : T.heap = h) {k : ClassId} {ty : FieldType} {z : Int32} {vs : List Value} {dv : Value} (M : Arh Z h b k ty z [] vs dv) (hr : ty.isReference = true) {j : Int32} (hj : ¬ j < 0 ∧ j < z) {v : Value} (hv : vs.getD j.toNatClampNeg dv = v) {g : JFrame} (hg : g.method = m) {rest : List Value} (hs : g.stack = .int j :: .ref b :: rest) (hd : decode c.code g.pc = .ok (.aaload, 1)) :
    ∀ target, Steps p.tables e below (T.setTop { g with pc := g.pc + 1, stack := v :: rest }) target → Steps p.tables e below (T.setTop g) target := by
  obtain ⟨cl, A, q1, S, q3, H, G⟩ := M
  exact fun t k => X.aaload hx (j := j) (v := v) (by rw [eT]; exact A.1) (State.isArrayOf_alike hZ.alike A.2.1) hr A.2.2 (inb_of S hj) (atH H (inb_of S hj) hv) hg hs hd _ k
theorem alenA (X : Stand p l e R s m args below meth c T locs cells slots) (hx : p.tables.exec = Jvm.exec) (hZ : Z.Warmed39 s.vm) (eT : T.heap = h) {k : ClassId} {ty : FieldType} {z : Int32} {hs' : List (Int32 × Value)} {vs : List Value} {dv : Value} (M : Arh Z h b k ty z hs' vs dv) {g : JFrame} (hg : g.method = m) {rest : List Value} (hs : g.stack = .ref b :: rest) (hd : decode c.code g.pc = .ok (.arraylength, 1)) :
    ∀ target, Steps p.tables e below (T.setTop { g with pc := g.pc + 1, stack := .int z :: rest }) target → Steps p.tables e below (T.setTop g) target := by
  obtain ⟨cl, A, q1, S, q3, H, G⟩ := M
  intro t k
  refine X.arraylength hx (by rw [eT]; exact A.1) (State.isArrayOf_alike hZ.alike A.2.1) hg hs hd _ ?_
  rw [len_of S q3]
  exact k
end OwnKit
section OwnStart
variable {args : Array Value} {s : State} {t u : Term} {a w : Addr} {cl : Cell}
theorem len_is {n : Int32} (ht : t.eval args s none [] s = some (.ref a)) (hc : s.heap[a]? = some cl) (h : (Cond.eq (.length t) (.int n)).value args s none s [] = some true) : cl.slots.size < 2 ^ 31 ∧ cl.slots.size.toInt32 = n := by
  obtain ⟨x, y, e1, e2, -⟩ := cmp_v (Or.inl h)
  obtain ⟨a', cell, h1, h2, rfl⟩ := Term.length_spec e1
  cases ht.symm.trans h1
  cases hc.symm.trans (State.arrayAt?_spec h2).1
  have q := gotT (Cond.eq_ints e1 (Term.int_eval n)) h
  refine ⟨?_, q⟩
  by_cases hl : cl.slots.size < 2 ^ 31
  · exact hl
  · simp [Term.eval, h1, h2, hl] at e1
theorem elem_ref {j : Int32} (ht : t.eval args s none [] s = some (.ref a)) (hu : u.eval args s none [] s = some (.ref w)) (hc : s.heap[a]? = some cl) (h : (Cond.eq (.elem t (.int j)) u).value args s none s [] = some true) : cl.slots[j.toNatClampNeg]? = some (.ref w) := by
  obtain ⟨x, y, e1, e2, k1, k2⟩ := cmp_v (Or.inl h)
  cases hu.symm.trans e2
  obtain ⟨-, q⟩ := elem_in e1 ht (Term.int_eval j) hc
  have hx : x.isRef = true := k2.2
  have := gotT (eq_R e1 e2 hx rfl) h
  rw [this] at q; exact q
theorem elem_int {j z : Int32} (ht : t.eval args s none [] s = some (.ref a)) (hc : s.heap[a]? = some cl) (h : (Cond.eq (.elem t (.int j)) (.int z)).value args s none s [] = some true) : cl.slots[j.toNatClampNeg]? = some (.int z) := by
  obtain ⟨x, y, e1, e2, k1, k2⟩ := cmp_v (Or.inl h)
  cases (Term.int_eval z).symm.trans e2
  obtain ⟨-, q⟩ := elem_in e1 ht (Term.int_eval j) hc
  obtain ⟨x', rfl⟩ := k2
  have := gotT (Cond.eq_ints e1 (Term.int_eval z)) h
  rw [this] at q; exact q
theorem fld_int {C n d : String} {z : Int32} (ht : t.eval args s none [] s = some (.ref a)) (h : (Cond.eq (.field t C n d) (.int z)).value args s none s [] = some true) : Fld s s.heap a C n d (.int z) := by
  obtain ⟨x, y, e1, e2, k1, k2⟩ := cmp_v (Or.inl h)
  cases (Term.int_eval z).symm.trans e2
  obtain ⟨x', rfl⟩ := k2
  have q := gotT (Cond.eq_ints e1 (Term.int_eval z)) h
  rw [q, fld_at ht] at e1
  exact Fld.start e1
theorem fld_refS {C n d : String} (ht : t.eval args s none [] s = some (.ref a)) (h : (Term.field t C n d).eval args s none [] s = some (.ref w)) : Fld s s.heap a C n d (.ref w) := by
  rw [fld_at ht] at h
  exact Fld.start h
end OwnStart
end Jvm.RoadKit
namespace Jvm.RoadKit
open Sem ClassFile Op Lib Jvm.Stand Jvm.Free Jvm.LawKit
section OwnKit2
variable {p : Program} {l : Launch} {e : Env} {R : Room} {s : State} {m : MethodId} {args : Array Value} {below : List Frame} {meth : Method} {c : Code} {T T' : State} {locs : List Loc} {cells slots : Nat} {Z : State} {h h' h2 : Heap} {a b : Addr} {sl : Nat} {v : Value}
theorem fits_nar_b (x : Int32) : fits .byte (.int (nar .byte x)) = true := fits_nar_byte x
theorem stBv {n0 : Nat} (X : Stand p l e R s m args below meth c T locs cells slots) (hx : p.tables.exec = Jvm.exec) (hZ : Z.Warmed39 s.vm) (eT : T.heap = h) {k : ClassId} {z : Int32} {vs : List Value} (M : Arv Z h b k .byte z vs (.int 0)) (N : Fr n0 locs) (hb : n0 ≤ b) {j x : Int32} (hj : ¬ j < 0 ∧ j < z) (i : Nat) (hi : j.toNatClampNeg = i) (hl : i < vs.length) {g : JFrame} (hg : g.method = m) {rest : List Value} (hs : g.stack = .int x :: .int j :: .ref b :: rest) (hd : decode c.code g.pc = .ok (.bastore, 1)) :
    ∃ T' h' locs' sl, Stand p l e R s m args below meth c T' locs' cells slots ∧ T'.heap = h' ∧ Wr h h' b sl (.int (nar .byte x)) ∧ Arv Z h' b k .byte z (vs.set i (.int (nar .byte x))) (.int 0) ∧ Fr n0 locs' ∧ ∀ target, Steps p.tables e below (T'.setTop { g with pc := g.pc + 1, stack := rest }) target → Steps p.tables e below (T.setTop g) target := by
  obtain ⟨cl, A, q1, S, q3, H, G⟩ := M
  obtain ⟨T', h', X', e', W, st⟩ := stB X hx hZ eT A (inb_of S hj) hg hs hd
  exact ⟨T', h', _, _, X', e', W, Arv.set A q1 S q3 H G (fits_nar_b _) W i hi hl, Fr.snoc X' N hb, st⟩
end OwnKit2
end Jvm.RoadKit
namespace Jvm.RoadKit
open Sem ClassFile Op Lib Bundle Jvm.Stand Jvm.Free Jvm.LawKit Jvm.Free.SB Jvm.Free.SBG
section OwnSafe
variable {Z : State} {EL : List (String × Nat)} {vm : Vm} {h : Heap}
/-- a String whose value is still null is no booked one -/
theorem Safe.blank {x : Addr} (hal : Z.vm.Alike vm) (E : Exa Z h x "java/lang/String") (F : Fld Z h x "java/lang/String" "value" "[B" .null) : Safe Z EL vm h x := fun B => by
  obtain ⟨p, -, u, a, -, q, -, G, rfl | rfl⟩ := B
  · obtain ⟨cell, cf, k, i, f, h1, h2, -, -, -, -, h7⟩ := F
    obtain ⟨cS, ⟨⟨s1, -, -, ⟨cv, kv, iv, s4, -⟩, -, -, -, s8, -⟩, -⟩, -⟩ := G
    cases h1.symm.trans (show h[q.sa]? = some q.sC from s1)
    obtain ⟨k3, e3, -⟩ := State.fieldFound?_setVm (s := Z) hal h2
    have e4 := (show (Wst Z vm h).fieldFound? _ _ _ = _ from e3).symm.trans s4
    simp only [Option.some.injEq, Prod.mk.injEq] at e4
    rw [← e4.2.2.2, h7] at s8
    cases s8
  · obtain ⟨cell, k, e1, e2, e3, -, -⟩ := E
    cases (show h[q.sd]? = some q.SA from G.hd).symm.trans e1
    obtain ⟨cS, -, -, f, -⟩ := G
    have f' : vm.findClass "[B" = some q.SA.cls := f
    rw [hal.findClass] at f'
    obtain ⟨k1, q1, q2⟩ := Vm.findClass_spec f'
    obtain ⟨k2, q3, q4⟩ := Vm.findClass_spec e2
    cases q1.symm.trans q3
    exact absurd (q2.symm.trans q4) (by decide)
end OwnSafe
end Jvm.RoadKit
namespace Jvm.RoadKit
open Sem ClassFile Op Lib Jvm.Stand Jvm.Free Jvm.LawKit
section OwnKit3
variable {p : Program} {l : Launch} {e : Env} {R : Room} {s : State} {m : MethodId} {args : Array Value} {below : List Frame} {meth : Method} {c : Code} {T T' : State} {locs : List Loc} {cells slots : Nat} {Z : State} {h h' h2 : Heap} {a b : Addr} {sl : Nat} {v : Value}
theorem balA (X : Stand p l e R s m args below meth c T locs cells slots) (hx : p.tables.exec = Jvm.exec) (hZ : Z.Warmed39 s.vm) (eT : T.heap = h) {k : ClassId} {z : Int32} {vs : List Value} {dv : Value} (M : Arv Z h b k .byte z vs dv) {j : Int32} (hj : ¬ j < 0 ∧ j < z) {v : Value} (hv : vs.getD j.toNatClampNeg dv = v) {g : JFrame} (hg : g.method = m) {rest : List Value} (hs : g.stack = .int j :: .ref b :: rest) (hd : decode c.code g.pc = .ok (.baload, 1)) :
    ∀ target, Steps p.tables e below (T.setTop { g with pc := g.pc + 1, stack := v :: rest }) target → Steps p.tables e below (T.setTop g) target := by
  obtain ⟨cl, A, q1, S, q3, H, G⟩ := M
  exact fun t k => X.baloadBytes hx (j := j) (v := v) (by rw [eT]; exact A.1) (State.isArrayOf_alike hZ.alike A.2.1) A.2.2 (inb_of S hj) (H.at (inb_of S hj) hv) hg hs hd _ k
theorem calA (X : Stand p l e R s m args below meth c T locs cells slots) (hx : p.tables.exec = Jvm.exec) (hZ : Z.Warmed39 s.vm) (eT : T.heap = h) {k : ClassId} {z : Int32} {vs : List Value} {dv : Value} (M : Arv Z h b k .char z vs dv) {j : Int32} (hj : ¬ j < 0 ∧ j < z) {v : Value} (hv : vs.getD j.toNatClampNeg dv = v) {g : JFrame} (hg : g.method = m) {rest : List Value} (hs : g.stack = .int j :: .ref b :: rest) (hd : decode c.code g.pc = .ok (.caload, 1)) :
    ∀ target, Steps p.tables e below (T.setTop { g with pc := g.pc + 1, stack := v :: rest }) target → Steps p.tables e below (T.setTop g) target := by
  obtain ⟨cl, A, q1, S, q3, H, G⟩ := M
  exact fun t k => X.caload hx (j := j) (v := v) (by rw [eT]; exact A.1) (State.isArrayOf_alike hZ.alike A.2.1) A.2.2 (inb_of S hj) (H.at (inb_of S hj) hv) hg hs hd _ k
theorem ofN_neg {n : Nat} (h : n < 2 ^ 31) : ¬ Int32.ofNat n < 0 := Int32.ofNat_not_neg h
theorem ofN_lt {i n : Nat} (h : i < n) (hn : n < 2 ^ 31) : Int32.ofNat i < Int32.ofNat n := by
  rw [Int32.lt_iff_toInt_lt, Int32.toInt_ofNat_small (show i < 2 ^ 31 by omega), Int32.toInt_ofNat_small hn]; omega
theorem ofN_le {i n : Nat} (h : n ≤ i) (hi : i < 2 ^ 31) : ¬ Int32.ofNat i < Int32.ofNat n := by
  rw [Int32.lt_iff_toInt_lt, Int32.toInt_ofNat_small hi, Int32.toInt_ofNat_small (show n < 2 ^ 31 by omega)]; omega
theorem ofN_clamp {n : Nat} (h : n < 2 ^ 31) : (Int32.ofNat n).toNatClampNeg = n := by
  show (Int32.ofNat n).toInt.toNat = n
  rw [Int32.toInt_ofNat_small h]; rfl
end OwnKit3
end Jvm.RoadKit
namespace Jvm.RoadKit
open Sem ClassFile Op Lib Jvm.Stand Jvm.Free Jvm.LawKit
theorem eval_int {args : Array Value} {s : State} {t : Term} {z : Int32} (h : (Cond.eq t (.int z)).value args s none s [] = some true) : t.eval args s none [] s = some (.int z) := by
  obtain ⟨x, y, e1, e2, k1, k2⟩ := cmp_v (Or.inl h)
  cases (Term.int_eval z).symm.trans e2
  obtain ⟨x', rfl⟩ := k2
  rw [gotT (Cond.eq_ints e1 (Term.int_eval z)) h] at e1
  exact e1
end Jvm.RoadKit
/- laws to paste: Road.backV, Road.lenW, Road.codOf (cut by pick.py; bodies as the Statement names them) -/
namespace Jvm.Pilot.@@N@@
namespace StrChars
open Jvm Sem ClassFile Op Lib Jvm.Stand Jvm.Free.XT Jvm.Free.ALB Jvm.Free.JM Jvm.Free
open Jvm.Lib.Cold (StaticIs)
/-- a char array whose places are chars -/
def Ch (a : Addr) (A : Cell) (U : State) : Prop := Arr .char a A U ∧ Typed .char A
theorem Ch.mv {a : Addr} {A : Cell} {U U' : State} (h : Ch a A U) (hal : U.vm.Alike U'.vm) (hh : U'.heap = U.heap) : Ch a A U' := ⟨h.1.mv hal hh, h.2⟩
theorem Ch.keep {a : Addr} {A : Cell} {U U' : State} (h : Ch a A U) (hal : U.vm.Alike U'.vm) (hk : U'.heap[a]? = some A) : Ch a A U' := ⟨h.1.keep hal hk, h.2⟩
/-- what place i of a char[]'s cell holds -/
def cv (A : Cell) (i : Nat) : Int32 := match A.slots[i]? with | some (.int x) => x | _ => 0
theorem Ch.get {a : Addr} {A : Cell} {U : State} (h : Ch a A U) {i : Nat} (hi : i < A.slots.size) : A.slots[i]? = some (.int (cv A i)) := by
  have e := Array.getElem?_eq_getElem hi
  have f := h.2 i _ e
  unfold cv; rw [e]
  generalize A.slots[i] = v at f
  cases v <;> simp [fits] at f ⊢
/-- the byte that i2b leaves of a char -/
def lo8 (x : Int32) : Int32 := x.toInt8.toInt32
theorem fits_lo8 (y : Int32) : fits .byte (.int (lo8 y)) = true := by
  have h1 := y.toInt8.le_toInt
  have h2 := y.toInt8.toInt_lt
  simp only [lo8, fits, Bool.and_eq_true, decide_eq_true_eq, Int32.le_iff_toInt_le, Int8.toInt_toInt32, show (-128 : Int32).toInt = -128 from by decide, show (127 : Int32).toInt = 127 from by decide]
  omega
/-- A' is A but that each place j of lo .. hi - 1 holds f j -/
def Laid (A A' : Cell) (lo hi : Nat) (f : Nat → Value) : Prop := A'.cls = A.cls ∧ A'.vm = A.vm ∧ A'.slots.size = A.slots.size ∧ ∀ i, A'.slots[i]? = if lo ≤ i ∧ i < hi then some (f i) else A.slots[i]?
theorem Laid.zero (A : Cell) (lo : Nat) (f : Nat → Value) : Laid A A lo (lo + 0) f := ⟨rfl, rfl, rfl, fun i => by rw [if_neg (by omega)]⟩
theorem Laid.step {A Ak : Cell} {lo k : Nat} {f : Nat → Value} {v : Value} (h : Laid A Ak lo k f) (hlo : lo ≤ k) (hk : k < Ak.slots.size) (hv : v = f k) : Laid A (Ak.setSlot k v) lo (k + 1) f := by
  refine ⟨h.1, h.2.1, by simpa [Cell.setSlot] using h.2.2.1, fun i => ?_⟩
  by_cases e : k = i
  · subst e; rw [Cell.slots_setSlot_self v hk, if_pos (by omega), hv]
  · rw [Cell.slots_setSlot_ne v e, h.2.2.2 i]
    by_cases q : lo ≤ i ∧ i < k
    · rw [if_pos q, if_pos (by omega)]
    · rw [if_neg q, if_neg (by omega)]
def U16 : String := "java/lang/StringUTF16"
namespace Cmp5
def yN : MethodName := ⟨"java/lang/StringUTF16", "compress", "([CI[BII)I"⟩
abbrev yB : ByteArray := jdk_52_method_21_code
theorem d0 : decode yB 0 = .ok (.iconst 0, 1) := by decide +kernel
theorem d1 : decode yB 1 = .ok (.istore 5, 2) := by decide +kernel
theorem d3 : decode yB 3 = .ok (.iload 5, 2) := by decide +kernel
theorem d5 : decode yB 5 = .ok (.iload 4, 2) := by decide +kernel
theorem d7 : decode yB 7 = .ok (.if_icmp (.ge) 37, 3) := by decide +kernel
theorem d10 : decode yB 10 = .ok (.aload_n 0, 1) := by decide +kernel
theorem d11 : decode yB 11 = .ok (.iload_n 1, 1) := by decide +kernel
theorem d12 : decode yB 12 = .ok (.caload, 1) := by decide +kernel
theorem d13 : decode yB 13 = .ok (.istore 6, 2) := by decide +kernel
theorem d15 : decode yB 15 = .ok (.iload 6, 2) := by decide +kernel
theorem d17 : decode yB 17 = .ok (.sipush 255, 3) := by decide +kernel
theorem d20 : decode yB 20 = .ok (.if_icmp (.le) 6, 3) := by decide +kernel
theorem d26 : decode yB 26 = .ok (.aload_n 2, 1) := by decide +kernel
theorem d27 : decode yB 27 = .ok (.iload_n 3, 1) := by decide +kernel
theorem d28 : decode yB 28 = .ok (.iload 6, 2) := by decide +kernel
theorem d30 : decode yB 30 = .ok (.i2b, 1) := by decide +kernel
theorem d31 : decode yB 31 = .ok (.bastore, 1) := by decide +kernel
theorem d32 : decode yB 32 = .ok (.iinc 1 1, 3) := by decide +kernel
theorem d35 : decode yB 35 = .ok (.iinc 3 1, 3) := by decide +kernel
theorem d38 : decode yB 38 = .ok (.iinc 5 1, 3) := by decide +kernel
theorem d41 : decode yB 41 = .ok (.goto (-38), 3) := by decide +kernel
theorem d44 : decode yB 44 = .ok (.iload 4, 2) := by decide +kernel
theorem d46 : decode yB 46 = .ok (.ireturn, 1) := by decide +kernel
def site : List Cond := []
def tab : Cond := tabOf yN yB 7 (some .int) site
def P (b : Addr) (A : Cell) (d : Addr) (B : Cell) (o q len : Nat) (args : Array Value) (s : State) : Prop := args = #[.ref b, .int (Int32.ofNat o), .ref d, .int (Int32.ofNat q), .int (Int32.ofNat len)] ∧ Ch b A s ∧ Arr .byte d B s ∧ b ≠ d ∧ o + len ≤ A.slots.size ∧ q + len ≤ B.slots.size ∧ ∀ i, i < len → ¬ 255 < cv A (o + i)
def E (b : Addr) (A : Cell) (d : Addr) (B : Cell) (o q len : Nat) (r : Option Value) (s u : State) : Prop := r = some (.int (Int32.ofNat len)) ∧ ∃ B', Put d B' s u ∧ Laid B B' q (q + len) (fun j => Value.int (lo8 (cv A (o + (j - q)))))
/-- no char of the range above 255: len; the places written hold each char's low byte -/
theorem law (l : Launch) (b : Addr) (A : Cell) (d : Addr) (B : Cell) (o q len : Nat) : Law l yN 5 5 0 0 yB 7 (some .int) site (P b A d B o q len) (E b A d B o q len) (copyLocs d q len) 0 0 := by
  refine Law.of_walk (plainFor_of_name (by decide +kernel)) (by decide +kernel) (by decide +kernel) (by decide) (fun _ _ h => by rw [h.1]; rfl) (fun _ U U' hal hh h => ⟨h.1, h.2.1.mv hal hh, h.2.2.1.mv hal hh, h.2.2.2⟩) (fun r U U' V V' h1 hal h2 h => ⟨h.1, h.2.elim fun B' q => ⟨B', q.1.mv h1 h2, q.2⟩⟩) ?_
  intro p e s m args below meth c s₁ X0 hexec hbytes hml hret hlk hnm hown hh0 W hP
  obtain ⟨rfl, hA, hB, hne, l1, l2, hp⟩ := hP
  have c1 : Steps p.tables e below (s₁.setTop (entryFrame m #[.ref b, .int (Int32.ofNat o), .ref d, .int (Int32.ofNat q), .int (Int32.ofNat len)] 7)) (s₁.setTop (mkF m 0 #[.val (.ref b), .val (.int (Int32.ofNat o)), .val (.ref d), .val (.int (Int32.ofNat q)), .val (.int (Int32.ofNat len)), .unset, .unset] [])) := entry rfl
  have hA0 := hA.1.mv X0.warmed.alike hh0
  have hB0 := hB.mv X0.warmed.alike hh0
  have a31 := hA.1.2.2.2
  have c2 : Steps p.tables e below (s₁.setTop (entryFrame m #[.ref b, .int (Int32.ofNat o), .ref d, .int (Int32.ofNat q), .int (Int32.ofNat len)] 7)) (s₁.setTop (mkF m 3 #[.val (.ref b), .val (.int (Int32.ofNat o)), .val (.ref d), .val (.int (Int32.ofNat q)), .val (.int (Int32.ofNat len)), .val (.int 0), .unset] [])) := c1.trans (by
    refine iconstV X0.here hexec rfl 0 (hb hbytes d0) (by decide) ?_
    refine XS.istore X0.here hexec rfl (hb hbytes d1) rfl rfl ?_
    exact Steps.refl _)
  have loop : ∀ (r i : Nat), i + r = len → ∀ (z : Slot), (z = .unset ∨ ∃ w, z = .val w ∧ w.category = 1) → ∀ (Tl : State) (Bk : Cell), Stand p l e { frames := 0, locals := 0, cells := 0, slots := 0 } s m #[.ref b, .int (Int32.ofNat o), .ref d, .int (Int32.ofNat q), .int (Int32.ofNat len)] below meth c Tl ([] ++ copyLocs d q i) 0 0 → Put d Bk s₁ Tl → Laid B Bk q (q + i) (fun j => Value.int (lo8 (cv A (o + (j - q))))) →
      Steps p.tables e below (s₁.setTop (entryFrame m #[.ref b, .int (Int32.ofNat o), .ref d, .int (Int32.ofNat q), .int (Int32.ofNat len)] 7)) (Tl.setTop (mkF m 3 #[.val (.ref b), .val (.int (Int32.ofNat (o + i))), .val (.ref d), .val (.int (Int32.ofNat (q + i))), .val (.int (Int32.ofNat len)), .val (.int (Int32.ofNat i)), z] [])) → ∃ (T' : State) (B' : Cell) (z' : Slot), Stand p l e { frames := 0, locals := 0, cells := 0, slots := 0 } s m #[.ref b, .int (Int32.ofNat o), .ref d, .int (Int32.ofNat q), .int (Int32.ofNat len)] below meth c T' ([] ++ copyLocs d q len) 0 0 ∧ Put d B' s₁ T' ∧ Laid B B' q (q + len) (fun j => Value.int (lo8 (cv A (o + (j - q))))) ∧
      Steps p.tables e below (s₁.setTop (entryFrame m #[.ref b, .int (Int32.ofNat o), .ref d, .int (Int32.ofNat q), .int (Int32.ofNat len)] 7)) (T'.setTop (mkF m 3 #[.val (.ref b), .val (.int (Int32.ofNat (o + len))), .val (.ref d), .val (.int (Int32.ofNat (q + len))), .val (.int (Int32.ofNat len)), .val (.int (Int32.ofNat len)), z'] [])) := by
    intro r
    induction r with
    | zero =>
      intro i hi z hz Tl Bk Xl pl fl cl
      have hil : i = len := by omega
      rw [hil] at Xl fl cl
      exact ⟨Tl, Bk, z, Xl, pl, fl, cl⟩
    | succ r ih =>
      intro i hi z hz Tl Bk Xl pl fl cl
      have all := X0.warmed.alike.symm.trans Xl.warmed.alike
      have hAl := hA0.keep all (pl.other hne hA0.1)
      have hBk := hB0.like all pl.1 fl.1 fl.2.1 fl.2.2.1
      have hlt : q + i < Bk.slots.size := by rw [fl.2.2.1]; omega
      have c3 : Steps p.tables e below (s₁.setTop (entryFrame m #[.ref b, .int (Int32.ofNat o), .ref d, .int (Int32.ofNat q), .int (Int32.ofNat len)] 7)) (Tl.setTop (mkF m 12 #[.val (.ref b), .val (.int (Int32.ofNat (o + i))), .val (.ref d), .val (.int (Int32.ofNat (q + i))), .val (.int (Int32.ofNat len)), .val (.int (Int32.ofNat i)), z] [.int (Int32.ofNat (o + i)), .ref b])) := cl.trans (by
        refine XS.iload Xl.here hexec rfl (hb hbytes d3) rfl ?_
        refine XS.iload Xl.here hexec rfl (hb hbytes d5) rfl ?_
        refine XS.icmpNo Xl.here hexec rfl (hb hbytes d7) rfl (ii_ge_f (lt32 (by omega) (by omega))) ?_
        refine XS.aloadN Xl.here hexec rfl (hb hbytes d10) rfl rfl ?_
        refine XS.iloadN Xl.here hexec rfl (hb hbytes d11) rfl ?_
        exact Steps.refl _)
      have c4 : Steps p.tables e below (s₁.setTop (entryFrame m #[.ref b, .int (Int32.ofNat o), .ref d, .int (Int32.ofNat q), .int (Int32.ofNat len)] 7)) (Tl.setTop (mkF m 13 #[.val (.ref b), .val (.int (Int32.ofNat (o + i))), .val (.ref d), .val (.int (Int32.ofNat (q + i))), .val (.int (Int32.ofNat len)), .val (.int (Int32.ofNat i)), z] [.int (cv A (o + i))])) := c3.trans (by
        refine Xl.aget hexec hAl rfl (hA.get (i := o + i) (by omega)) rfl rfl (hb hbytes d12) ?_
        exact Steps.refl _)
      have c5 : Steps p.tables e below (s₁.setTop (entryFrame m #[.ref b, .int (Int32.ofNat o), .ref d, .int (Int32.ofNat q), .int (Int32.ofNat len)] 7)) (Tl.setTop (mkF m 15 #[.val (.ref b), .val (.int (Int32.ofNat (o + i))), .val (.ref d), .val (.int (Int32.ofNat (q + i))), .val (.int (Int32.ofNat len)), .val (.int (Int32.ofNat i)), .val (.int (cv A (o + i)))] [])) := c4.trans (by
        refine XS.istoreS Xl.here hexec rfl (hb hbytes d13) rfl rfl hz ?_
        exact Steps.refl _)
      have c6 : Steps p.tables e below (s₁.setTop (entryFrame m #[.ref b, .int (Int32.ofNat o), .ref d, .int (Int32.ofNat q), .int (Int32.ofNat len)] 7)) (Tl.setTop (mkF m 31 #[.val (.ref b), .val (.int (Int32.ofNat (o + i))), .val (.ref d), .val (.int (Int32.ofNat (q + i))), .val (.int (Int32.ofNat len)), .val (.int (Int32.ofNat i)), .val (.int (cv A (o + i)))] [.int (lo8 (cv A (o + i))), .int (Int32.ofNat (q + i)), .ref d])) := c5.trans (by
        refine XS.iload Xl.here hexec rfl (hb hbytes d15) rfl ?_
        refine sipushV Xl.here hexec rfl 255 (hb hbytes d17) (by decide) ?_
        refine XS.icmpYes Xl.here hexec rfl (pc0 := 20) rfl (hb hbytes d20) rfl (ii_le_t (hp i (by omega))) (by decide) rfl ?_
        refine XS.aloadN Xl.here hexec rfl (hb hbytes d26) rfl rfl ?_
        refine XS.iloadN Xl.here hexec rfl (hb hbytes d27) rfl ?_
        refine XS.iload Xl.here hexec rfl (hb hbytes d28) rfl ?_
        refine i2b Xl.here hexec rfl (hb hbytes d30) rfl ?_
        exact Steps.refl _)
      obtain ⟨T7, X7, p7, st7⟩ := Xl.aput hexec hBk rfl hlt rfl (fits_lo8 (cv A (o + i))) (g := (mkF m 31 #[.val (.ref b), .val (.int (Int32.ofNat (o + i))), .val (.ref d), .val (.int (Int32.ofNat (q + i))), .val (.int (Int32.ofNat len)), .val (.int (Int32.ofNat i)), .val (.int (cv A (o + i)))] [.int (lo8 (cv A (o + i))), .int (Int32.ofNat (q + i)), .ref d])) rfl (rest := []) rfl (hb hbytes d31)
      have c8 : Steps p.tables e below (s₁.setTop (entryFrame m #[.ref b, .int (Int32.ofNat o), .ref d, .int (Int32.ofNat q), .int (Int32.ofNat len)] 7)) (T7.setTop (mkF m 32 #[.val (.ref b), .val (.int (Int32.ofNat (o + i))), .val (.ref d), .val (.int (Int32.ofNat (q + i))), .val (.int (Int32.ofNat len)), .val (.int (Int32.ofNat i)), .val (.int (cv A (o + i)))] [])) := c6.trans (st7 _ (Steps.refl _))
      have c9 : Steps p.tables e below (s₁.setTop (entryFrame m #[.ref b, .int (Int32.ofNat o), .ref d, .int (Int32.ofNat q), .int (Int32.ofNat len)] 7)) (T7.setTop (mkF m 3 #[.val (.ref b), .val (.int (Int32.ofNat (o + i) + 1)), .val (.ref d), .val (.int (Int32.ofNat (q + i) + 1)), .val (.int (Int32.ofNat len)), .val (.int (Int32.ofNat i + 1)), .val (.int (cv A (o + i)))] [])) := c8.trans (by
        refine iincV X7.here hexec rfl 1 (hb hbytes d32) (by decide) rfl rfl ?_
        refine iincV X7.here hexec rfl 1 (hb hbytes d35) (by decide) rfl rfl ?_
        refine iincV X7.here hexec rfl 1 (hb hbytes d38) (by decide) rfl rfl ?_
        refine XS.goto X7.here hexec rfl (pc0 := 41) rfl (hb hbytes d41) (by decide) rfl ?_
        exact Steps.refl _)
      have c10 : Steps p.tables e below (s₁.setTop (entryFrame m #[.ref b, .int (Int32.ofNat o), .ref d, .int (Int32.ofNat q), .int (Int32.ofNat len)] 7)) (T7.setTop (mkF m 3 #[.val (.ref b), .val (.int (Int32.ofNat (o + (i + 1)))), .val (.ref d), .val (.int (Int32.ofNat (q + (i + 1)))), .val (.int (Int32.ofNat len)), .val (.int (Int32.ofNat (i + 1))), .val (.int (cv A (o + i)))] [])) := by
        have := c9
        rw [succ32, succ32, succ32] at this
        exact this
      exact ih (i + 1) (by omega) _ (Or.inr ⟨_, rfl, rfl⟩) T7 _ (by rw [copyLocs_step, ← List.append_assoc]; exact X7) (pl.trans p7) (fl.step (by omega) hlt (by simp)) c10
  obtain ⟨T9, B9, z9, X9, p9, f9, g9⟩ := loop len 0 (by omega) .unset (Or.inl rfl) s₁ B (by simpa [copyLocs] using X0) ⟨hB0.1, fun _ _ => rfl, rfl⟩ (Laid.zero _ _ _) c2
  have c11 : Steps p.tables e below (s₁.setTop (entryFrame m #[.ref b, .int (Int32.ofNat o), .ref d, .int (Int32.ofNat q), .int (Int32.ofNat len)] 7)) (T9.setTop (mkF m 46 #[.val (.ref b), .val (.int (Int32.ofNat (o + len))), .val (.ref d), .val (.int (Int32.ofNat (q + len))), .val (.int (Int32.ofNat len)), .val (.int (Int32.ofNat len)), z9] [.int (Int32.ofNat len)])) := g9.trans (by
    refine XS.iload X9.here hexec rfl (hb hbytes d3) rfl ?_
    refine XS.iload X9.here hexec rfl (hb hbytes d5) rfl ?_
    refine XS.icmpYes X9.here hexec rfl (pc0 := 7) rfl (hb hbytes d7) rfl (ii_ge_t (nlt32 (by omega) (Nat.le_refl _))) (by decide) rfl ?_
    refine XS.iload X9.here hexec rfl (hb hbytes d44) rfl ?_
    exact Steps.refl _)
  exact ⟨T9, some (.int (Int32.ofNat len)), _, _, _, X9, by simp, rfl, rfl, (fun h => by cases h), ⟨rfl, B9, p9.from hh0, f9⟩, fun fs hl => c11.trans (X9.ireturnOut hexec hret rfl (Or.inl rfl) (hb hbytes d46) hl)⟩
end Cmp5
namespace Cmp3
def yN : MethodName := ⟨"java/lang/StringUTF16", "compress", "([CII)[B"⟩
abbrev yB : ByteArray := jdk_52_method_16_code
theorem d0 : decode yB 0 = .ok (.iload_n 2, 1) := by decide +kernel
theorem d1 : decode yB 1 = .ok (.newarray .byte, 2) := by decide +kernel
theorem d3 : decode yB 3 = .ok (.astore_n 3, 1) := by decide +kernel
theorem d4 : decode yB 4 = .ok (.aload_n 0, 1) := by decide +kernel
theorem d5 : decode yB 5 = .ok (.iload_n 1, 1) := by decide +kernel
theorem d6 : decode yB 6 = .ok (.aload_n 3, 1) := by decide +kernel
theorem d7 : decode yB 7 = .ok (.iconst 0, 1) := by decide +kernel
theorem d8 : decode yB 8 = .ok (.iload_n 2, 1) := by decide +kernel
theorem d9 : decode yB 9 = .ok (.invokestatic 115, 3) := by decide +kernel
theorem d12 : decode yB 12 = .ok (.istore 4, 2) := by decide +kernel
theorem d14 : decode yB 14 = .ok (.iload 4, 2) := by decide +kernel
theorem d16 : decode yB 16 = .ok (.iload_n 2, 1) := by decide +kernel
theorem d17 : decode yB 17 = .ok (.if_icmp (.eq) 40, 3) := by decide +kernel
theorem d57 : decode yB 57 = .ok (.aload_n 3, 1) := by decide +kernel
theorem d58 : decode yB 58 = .ok (.areturn, 1) := by decide +kernel
def site : List Cond := [.arrayClass .byte, Cmp5.tab] ++ staticW U16 115 Cmp5.yN
def tab : Cond := tabOf yN yB 6 (some (.array .byte)) site
def P (b : Addr) (A : Cell) (o len : Nat) (args : Array Value) (s : State) : Prop := args = #[.ref b, .int (Int32.ofNat o), .int (Int32.ofNat len)] ∧ Ch b A s ∧ o + len ≤ A.slots.size ∧ len ≤ 536870912 ∧ ∀ i, i < len → ¬ 255 < cv A (o + i)
def E (b : Addr) (A : Cell) (o len : Nat) (r : Option Value) (s u : State) : Prop := NewArr .byte "[B" len (fun j => .int (lo8 (cv A (o + j)))) r s u ∧ u.heap.size = s.heap.size + 1
/-- no char of the range above 255: a new byte[] of their low bytes -/
theorem law (l : Launch) (b : Addr) (A : Cell) (o len : Nat) : Law l yN 3 3 1 18 yB 6 (some (.array .byte)) site (P b A o len) (E b A o len) [] 1 len := by
  refine Law.of_walk (plainFor_of_name (by decide +kernel)) (by decide +kernel) (by decide +kernel) (by decide) (fun _ _ h => by rw [h.1]; rfl) (fun _ U U' hal hh h => ⟨h.1, h.2.1.mv hal hh, h.2.2⟩) (fun r U U' V V' h1 hal h2 h => ⟨NewArr.mv r U U' V V' h1 hal h2 h.1, by rw [h1, h2]; exact h.2⟩) ?_
  intro p e s m args below meth c s₁ X0 hexec hbytes hml hret hlk hnm hown hh0 W hP
  obtain ⟨rfl, hA, l1, l2, hp⟩ := hP
  have a31 := hA.1.2.2.2
  have c1 : Steps p.tables e below (s₁.setTop (entryFrame m #[.ref b, .int (Int32.ofNat o), .int (Int32.ofNat len)] 6)) (s₁.setTop (mkF m 0 #[.val (.ref b), .val (.int (Int32.ofNat o)), .val (.int (Int32.ofNat len)), .unset, .unset, .unset] [])) := entry rfl
  have c2 : Steps p.tables e below (s₁.setTop (entryFrame m #[.ref b, .int (Int32.ofNat o), .int (Int32.ofNat len)] 6)) (s₁.setTop (mkF m 1 #[.val (.ref b), .val (.int (Int32.ofNat o)), .val (.int (Int32.ofNat len)), .unset, .unset, .unset] [.int (Int32.ofNat len)])) := c1.trans (by
    refine XS.iloadN X0.here hexec rfl (hb hbytes d0) rfl ?_
    exact Steps.refl _)
  obtain ⟨T3, B3, X3, ba3, bs3, bv3, bh3, bf3, st3⟩ := X0.anew hexec (atype := .byte) (wk W (.arrayClass .byte)) rfl (by show len * 1 ≤ _; omega) (by omega) (g := (mkF m 1 #[.val (.ref b), .val (.int (Int32.ofNat o)), .val (.int (Int32.ofNat len)), .unset, .unset, .unset] [.int (Int32.ofNat len)])) rfl (hb hbytes d1) (rest := []) rfl (Nat.le_refl _) (by show 0 + len ≤ len; omega)
  rw [hh0] at ba3 st3
  have kp3 : XT.Kept s T3 := (XT.Kept.of_eq hh0).push bh3
  have hA3 := hA.keep X3.warmed.alike (kp3 _ _ hA.1.1)
  have hne : b ≠ s.heap.size := hA.1.ne
  have c4 : Steps p.tables e below (s₁.setTop (entryFrame m #[.ref b, .int (Int32.ofNat o), .int (Int32.ofNat len)] 6)) (T3.setTop (mkF m 3 #[.val (.ref b), .val (.int (Int32.ofNat o)), .val (.int (Int32.ofNat len)), .unset, .unset, .unset] [.ref s.heap.size])) := c2.trans (st3 _ (Steps.refl _))
  have c5 : Steps p.tables e below (s₁.setTop (entryFrame m #[.ref b, .int (Int32.ofNat o), .int (Int32.ofNat len)] 6)) (T3.setTop (mkF m 9 #[.val (.ref b), .val (.int (Int32.ofNat o)), .val (.int (Int32.ofNat len)), .val (.ref s.heap.size), .unset, .unset] [.int (Int32.ofNat len), .int 0, .ref s.heap.size, .int (Int32.ofNat o), .ref b])) := c4.trans (by
    refine XS.astoreN X3.here hexec rfl (hb hbytes d3) rfl rfl rfl ?_
    refine XS.aloadN X3.here hexec rfl (hb hbytes d4) rfl rfl ?_
    refine XS.iloadN X3.here hexec rfl (hb hbytes d5) rfl ?_
    refine XS.aloadN X3.here hexec rfl (hb hbytes d6) rfl rfl ?_
    refine iconstV X3.here hexec rfl 0 (hb hbytes d7) (by decide) ?_
    refine XS.iloadN X3.here hexec rfl (hb hbytes d8) rfl ?_
    exact Steps.refl _)
  obtain ⟨v6, T6, X6, E6, g6⟩ := X3.callS hexec (Cmp5.law l b A s.heap.size B3 o 0 len) hown (wks W (staticW U16 115 Cmp5.yN)) (wk W Cmp5.tab) (W := 0) (Nat.le_of_ble_eq_true rfl) (Nat.le_of_ble_eq_true rfl) (Nat.le_refl _) (by show 0 + len + 0 ≤ len; omega) (g := (mkF m 9 #[.val (.ref b), .val (.int (Int32.ofNat o)), .val (.int (Int32.ofNat len)), .val (.ref s.heap.size), .unset, .unset] [.int (Int32.ofNat len), .int (Int32.ofNat 0), .ref s.heap.size, .int (Int32.ofNat o), .ref b])) rfl (by rw [hml]; rfl) c5 (argsL := [.ref b, .int (Int32.ofNat o), .ref s.heap.size, .int (Int32.ofNat 0), .int (Int32.ofNat len)]) (rest := []) rfl rfl (by show 2 * 0 + 0 ≤ _; decide) (hb hbytes d9) (⟨rfl, hA3, ba3, hne, l1, by rw [bs3]; simp, hp⟩)
  obtain ⟨rfl, B6, p6, f6⟩ := E6
  have c7 : Steps p.tables e below (s₁.setTop (entryFrame m #[.ref b, .int (Int32.ofNat o), .int (Int32.ofNat len)] 6)) (T6.setTop (mkF m 12 #[.val (.ref b), .val (.int (Int32.ofNat o)), .val (.int (Int32.ofNat len)), .val (.ref s.heap.size), .unset, .unset] [.int (Int32.ofNat len)])) := g6
  have c8 : Steps p.tables e below (s₁.setTop (entryFrame m #[.ref b, .int (Int32.ofNat o), .int (Int32.ofNat len)] 6)) (T6.setTop (mkF m 58 #[.val (.ref b), .val (.int (Int32.ofNat o)), .val (.int (Int32.ofNat len)), .val (.ref s.heap.size), .val (.int (Int32.ofNat len)), .unset] [.ref s.heap.size])) := c7.trans (by
    refine XS.istore X6.here hexec rfl (hb hbytes d12) rfl rfl ?_
    refine XS.iload X6.here hexec rfl (hb hbytes d14) rfl ?_
    refine XS.iloadN X6.here hexec rfl (hb hbytes d16) rfl ?_
    refine XS.icmpYes X6.here hexec rfl (pc0 := 17) rfl (hb hbytes d17) rfl (ii_eq_t rfl) (by decide) rfl ?_
    refine XS.aloadN X6.here hexec rfl (hb hbytes d57) rfl rfl ?_
    exact Steps.refl _)
  have X8 := X6.wide (L' := []) (cells' := 1) (slots' := len) (fun x hx hlt => by
    simp only [List.nil_append, copyLocs, List.mem_map, List.mem_range] at hx
    obtain ⟨i, -, rfl⟩ := hx
    exact absurd hlt (Nat.lt_irrefl _)) (Nat.le_refl _) (by omega)
  exact ⟨T6, some (.ref s.heap.size), _, _, _, X8, rfl, rfl, rfl, (fun h => by cases h), ⟨⟨rfl, B6, ba3.like (X3.warmed.alike.symm.trans X6.warmed.alike) p6.1 f6.1 f6.2.1 f6.2.2.1, f6.2.1.trans bv3, by rw [X6.warmed.alike.findClass, f6.1]; exact bf3, by rw [f6.2.2.1, bs3]; simp, fun j hj => by rw [f6.2.2.2 j, if_pos (by omega)]; rfl, kp3.put p6 (Nat.le_refl _)⟩, by rw [p6.2.2, bh3, hh0]; simp⟩, fun fs hl => c8.trans (X8.areturnOut hexec rfl hret rfl (hb hbytes d58) hl)⟩
end Cmp3
namespace CodL
def yN : MethodName := ⟨"java/lang/StringUTF16", "coderFromArrayLen", "([BI)B"⟩
abbrev yB : ByteArray := jdk_52_method_15_code
theorem d0 : decode yB 0 = .ok (.iload_n 1, 1) := by decide +kernel
theorem d1 : decode yB 1 = .ok (.aload_n 0, 1) := by decide +kernel
theorem d2 : decode yB 2 = .ok (.arraylength, 1) := by decide +kernel
theorem d3 : decode yB 3 = .ok (.isub, 1) := by decide +kernel
theorem d4 : decode yB 4 = .ok (.bipush 31, 2) := by decide +kernel
theorem d6 : decode yB 6 = .ok (.iushr, 1) := by decide +kernel
theorem d7 : decode yB 7 = .ok (.i2b, 1) := by decide +kernel
theorem d8 : decode yB 8 = .ok (.ireturn, 1) := by decide +kernel
def site : List Cond := []
def tab : Cond := tabOf yN yB 2 (some .byte) site
def P (d : Addr) (B : Cell) (args : Array Value) (s : State) : Prop := args = #[.ref d, .int (Int32.ofNat B.slots.size)] ∧ Arr .byte d B s
def E (r : Option Value) (s u : State) : Prop := XT.PureE (some (.int 0)) r s u
/-- an array as long as the number of chars: LATIN1 -/
theorem law (l : Launch) (d : Addr) (B : Cell) : Law l yN 2 2 0 0 yB 2 (some .byte) site (P d B) E [] 0 0 := by
  refine Law.of_walk (plainFor_of_name (by decide +kernel)) (by decide +kernel) (by decide +kernel) (by decide) (fun _ _ h => by rw [h.1]; rfl) (fun _ U U' hal hh h => ⟨h.1, h.2.mv hal hh⟩) (fun r U U' V V' h1 hal h2 h => XT.PureE.mv r U U' V V' h1 hal h2 h) ?_
  intro p e s m args below meth c s₁ X0 hexec hbytes hml hret hlk hnm hown hh0 W hP
  obtain ⟨rfl, hB⟩ := hP
  have hB0 := hB.mv X0.warmed.alike hh0
  have c1 : Steps p.tables e below (s₁.setTop (entryFrame m #[.ref d, .int (Int32.ofNat B.slots.size)] 2)) (s₁.setTop (mkF m 0 #[.val (.ref d), .val (.int (Int32.ofNat B.slots.size))] [])) := entry rfl
  have c2 : Steps p.tables e below (s₁.setTop (entryFrame m #[.ref d, .int (Int32.ofNat B.slots.size)] 2)) (s₁.setTop (mkF m 2 #[.val (.ref d), .val (.int (Int32.ofNat B.slots.size))] [.ref d, .int (Int32.ofNat B.slots.size)])) := c1.trans (by
    refine XS.iloadN X0.here hexec rfl (hb hbytes d0) rfl ?_
    refine XS.aloadN X0.here hexec rfl (hb hbytes d1) rfl rfl ?_
    exact Steps.refl _)
  have c3 : Steps p.tables e below (s₁.setTop (entryFrame m #[.ref d, .int (Int32.ofNat B.slots.size)] 2)) (s₁.setTop (mkF m 8 #[.val (.ref d), .val (.int (Int32.ofNat B.slots.size))] [.int (lo8 (ushr (Int32.ofNat B.slots.size - Int32.ofNat B.slots.size) 31))])) := c2.trans (by
    refine X0.alen hexec hB0 rfl rfl (hb hbytes d2) ?_
    refine XS.isub X0.here hexec rfl (hb hbytes d3) rfl ?_
    refine bipushV X0.here hexec rfl 31 (hb hbytes d4) (by decide) ?_
    refine iushr X0.here hexec rfl (hb hbytes d6) rfl ?_
    refine i2b X0.here hexec rfl (hb hbytes d7) rfl ?_
    exact Steps.refl _)
  have e0 : lo8 (ushr (Int32.ofNat B.slots.size - Int32.ofNat B.slots.size) 31) = 0 := by rw [Int32.sub_self]; decide
  rw [e0] at c3
  exact ⟨s₁, some (.int 0), _, _, _, X0, rfl, rfl, rfl, (fun h => by cases h), ⟨rfl, hh0⟩, fun fs hl => c3.trans (X0.ireturnOut hexec hret rfl (Or.inr (Or.inr (Or.inl rfl))) (hb hbytes d8) hl)⟩
end CodL
/-- the String at a is Latin-1 over a new byte[] (the heap's one new cell): the low bytes of the len chars of A from o on; every cell but a is kept -/
def Got (a : Addr) (D : Cell) (fV fC : Field) (A : Cell) (o len : Nat) (r : Option Value) (s u : State) : Prop := r = none ∧ ∃ D' V : Cell, Blank "java/lang/String" a D' u ∧ Same D D' [fV.slot, fC.slot] ∧ D'.slots[fV.slot]? = some (.ref s.heap.size) ∧ D'.slots[fC.slot]? = some (.int 0) ∧ Arr .byte s.heap.size V u ∧ V.vm = .none ∧ u.vm.findClass "[B" = some V.cls ∧ V.slots.size = len ∧ (∀ j, j < len → V.slots[j]? = some (.int (lo8 (cv A (o + j))))) ∧ (∀ (y : Addr) (c : Cell), y ≠ a → s.heap[y]? = some c → u.heap[y]? = some c) ∧ u.heap.size = s.heap.size + 1
theorem Got.mv {a : Addr} {D A : Cell} {fV fC : Field} {o len : Nat} : ∀ r (U U' V V' : State), U'.heap = U.heap → V.vm.Alike V'.vm → V'.heap = V.heap → Got a D fV fC A o len r U V → Got a D fV fC A o len r U' V' :=
  fun r U U' V V' h1 hal h2 ⟨e0, D', X, a1, a2, a3, a4, a5, a6, a7, a8, a9, a10, a11⟩ => ⟨e0, D', X, a1.mv hal h2, a2, by rw [h1]; exact a3, a4, by rw [h1]; exact a5.mv hal h2, a6, by rw [hal.findClass]; exact a7, a8, a9, by rw [h1, h2]; exact a10, by rw [h1, h2]; exact a11⟩
namespace New4
def yN : MethodName := ⟨"java/lang/String", "<init>", "([CIILjava/lang/Void;)V"⟩
abbrev yB : ByteArray := jdk_42_method_149_code
theorem d0 : decode yB 0 = .ok (.aload_n 0, 1) := by decide +kernel
theorem d1 : decode yB 1 = .ok (.invokespecial 1, 3) := by decide +kernel
theorem d4 : decode yB 4 = .ok (.iload_n 3, 1) := by decide +kernel
theorem d5 : decode yB 5 = .ok (.ifCond (.ne) 22, 3) := by decide +kernel
theorem d27 : decode yB 27 = .ok (.getstatic 38, 3) := by decide +kernel
theorem d30 : decode yB 30 = .ok (.ifCond (.eq) 28, 3) := by decide +kernel
theorem d33 : decode yB 33 = .ok (.aload_n 1, 1) := by decide +kernel
theorem d34 : decode yB 34 = .ok (.iload_n 2, 1) := by decide +kernel
theorem d35 : decode yB 35 = .ok (.iload_n 3, 1) := by decide +kernel
theorem d36 : decode yB 36 = .ok (.invokestatic 177, 3) := by decide +kernel
theorem d39 : decode yB 39 = .ok (.astore 5, 2) := by decide +kernel
theorem d41 : decode yB 41 = .ok (.aload_n 0, 1) := by decide +kernel
theorem d42 : decode yB 42 = .ok (.aload 5, 2) := by decide +kernel
theorem d44 : decode yB 44 = .ok (.iload_n 3, 1) := by decide +kernel
theorem d45 : decode yB 45 = .ok (.invokestatic 47, 3) := by decide +kernel
theorem d48 : decode yB 48 = .ok (.putfield 15, 3) := by decide +kernel
theorem d51 : decode yB 51 = .ok (.aload_n 0, 1) := by decide +kernel
theorem d52 : decode yB 52 = .ok (.aload 5, 2) := by decide +kernel
theorem d54 : decode yB 54 = .ok (.putfield 9, 3) := by decide +kernel
theorem d57 : decode yB 57 = .ok (.return_, 1) := by decide +kernel
def site : List Cond := [.fieldLink "java/lang/String" 38 "java/lang/String" "COMPACT_STRINGS" "Z", Cmp3.tab, CodL.tab, .laysFinal "java/lang/String" "java/lang/String" "value" "[B", .fieldLink "java/lang/String" 9 "java/lang/String" "value" "[B", .laysFinal "java/lang/String" "java/lang/String" "coder" "B", .fieldLink "java/lang/String" 15 "java/lang/String" "coder" "B"] ++ objW "java/lang/String" 1 ++ staticW "java/lang/String" 177 Cmp3.yN ++ staticW "java/lang/String" 47 CodL.yN
def tab : Cond := tabOf yN yB 6 none site
def P (a : Addr) (D : Cell) (fV fC : Field) (b : Addr) (A : Cell) (z : Int32) (o len : Nat) (args : Array Value) (s : State) : Prop := args = #[.ref a, .ref b, .int (Int32.ofNat o), .int (Int32.ofNat len), .null] ∧ Blank "java/lang/String" a D s ∧ Found "java/lang/String" "value" "[B" fV s ∧ Found "java/lang/String" "coder" "B" fC s ∧ Ch b A s ∧ StaticIs s "java/lang/String" "COMPACT_STRINGS" "Z" (.int z) ∧ ¬ z = 0 ∧ 0 < len ∧ o + len ≤ A.slots.size ∧ len ≤ 536870912 ∧ ∀ i, i < len → ¬ 255 < cv A (o + i)
def E (a : Addr) (D : Cell) (fV fC : Field) (A : Cell) (o len : Nat) (r : Option Value) (s u : State) : Prop := Got a D fV fC A o len r s u
/-- len > 0, no char of the range above 255: a Latin-1 String of their low bytes -/
theorem law (l : Launch) (a : Addr) (D : Cell) (fV fC : Field) (b : Addr) (A : Cell) (z : Int32) (o len : Nat) : Law l yN 5 4 2 35 yB 6 none site (P a D fV fC b A z o len) (E a D fV fC A o len) [⟨a, fC.slot⟩, ⟨a, fV.slot⟩] 1 len := by
  refine Law.of_walk (plainFor_of_name (by decide +kernel)) (by decide +kernel) (by decide +kernel) (by decide) (fun _ _ h => by rw [h.1]; rfl) (fun _ U U' hal hh h => ⟨h.1, h.2.1.mv hal hh, h.2.2.1.al hal, h.2.2.2.1.al hal, h.2.2.2.2.1.mv hal hh, h.2.2.2.2.2.1.there hal hh, h.2.2.2.2.2.2⟩) (fun r U U' V V' h1 hal h2 h => Got.mv r U U' V V' h1 hal h2 h) ?_
  intro p e s m args below meth c s₁ X0 hexec hbytes hml hret hlk hnm hown hh0 W hP
  obtain ⟨rfl, hB, f1, f2, hA, s1, hz, l0, l1, l2, hp⟩ := hP
  have a31 := hA.1.2.2.2
  have c1 : Steps p.tables e below (s₁.setTop (entryFrame m #[.ref a, .ref b, .int (Int32.ofNat o), .int (Int32.ofNat len), .null] 6)) (s₁.setTop (mkF m 0 #[.val (.ref a), .val (.ref b), .val (.int (Int32.ofNat o)), .val (.int (Int32.ofNat len)), .val .null, .unset] [])) := entry rfl
  have c2 : Steps p.tables e below (s₁.setTop (entryFrame m #[.ref a, .ref b, .int (Int32.ofNat o), .int (Int32.ofNat len), .null] 6)) (s₁.setTop (mkF m 1 #[.val (.ref a), .val (.ref b), .val (.int (Int32.ofNat o)), .val (.int (Int32.ofNat len)), .val .null, .unset] [.ref a])) := c1.trans (by
    refine XS.aloadN X0.here hexec rfl (hb hbytes d0) rfl rfl ?_
    exact Steps.refl _)
  obtain ⟨T3, X3, q3, st3⟩ := X0.oinit hexec hown (wks W (objW "java/lang/String" 1)) (g := (mkF m 1 #[.val (.ref a), .val (.ref b), .val (.int (Int32.ofNat o)), .val (.int (Int32.ofNat len)), .val .null, .unset] [.ref a])) rfl (by rw [hml]; rfl) (rest := []) rfl (hb hbytes d1) (W := 0) (by show 2 * 0 + 0 ≤ _; decide) (Nat.le_of_ble_eq_true rfl) (Nat.le_of_ble_eq_true rfl)
  have hh3 := q3.trans hh0
  have c4 : Steps p.tables e below (s₁.setTop (entryFrame m #[.ref a, .ref b, .int (Int32.ofNat o), .int (Int32.ofNat len), .null] 6)) (T3.setTop (mkF m 27 #[.val (.ref a), .val (.ref b), .val (.int (Int32.ofNat o)), .val (.int (Int32.ofNat len)), .val .null, .unset] [])) := (c2.trans (st3 _ (Steps.refl _))).trans (by
    refine XS.iloadN X3.here hexec rfl (hb hbytes d4) rfl ?_
    refine XS.ifYes X3.here hexec rfl (pc0 := 5) rfl (hb hbytes d5) rfl (i0_ne_t (nz32 (by omega) l0)) (by decide) rfl ?_
    exact Steps.refl _)
  obtain ⟨T5, X5, q5, st5⟩ := X3.sget hexec hown (wk W (.fieldLink "java/lang/String" 38 "java/lang/String" "COMPACT_STRINGS" "Z")) s1 (fun _ _ h => by rw [hh3]; exact h) (g := (mkF m 27 #[.val (.ref a), .val (.ref b), .val (.int (Int32.ofNat o)), .val (.int (Int32.ofNat len)), .val .null, .unset] [])) rfl (hb hbytes d27)
  have hh5 := q5.trans hh3
  have c6 : Steps p.tables e below (s₁.setTop (entryFrame m #[.ref a, .ref b, .int (Int32.ofNat o), .int (Int32.ofNat len), .null] 6)) (T5.setTop (mkF m 30 #[.val (.ref a), .val (.ref b), .val (.int (Int32.ofNat o)), .val (.int (Int32.ofNat len)), .val .null, .unset] [.int z])) := c4.trans (st5 _ (Steps.refl _))
  have c7 : Steps p.tables e below (s₁.setTop (entryFrame m #[.ref a, .ref b, .int (Int32.ofNat o), .int (Int32.ofNat len), .null] 6)) (T5.setTop (mkF m 36 #[.val (.ref a), .val (.ref b), .val (.int (Int32.ofNat o)), .val (.int (Int32.ofNat len)), .val .null, .unset] [.int (Int32.ofNat len), .int (Int32.ofNat o), .ref b])) := c6.trans (by
    refine XS.ifNo X5.here hexec rfl (hb hbytes d30) rfl (i0_eq_f hz) ?_
    refine XS.aloadN X5.here hexec rfl (hb hbytes d33) rfl rfl ?_
    refine XS.iloadN X5.here hexec rfl (hb hbytes d34) rfl ?_
    refine XS.iloadN X5.here hexec rfl (hb hbytes d35) rfl ?_
    exact Steps.refl _)
  obtain ⟨v8, T8, X8, E8, g8⟩ := X5.callS hexec (Cmp3.law l b A o len) hown (wks W (staticW "java/lang/String" 177 Cmp3.yN)) (wk W Cmp3.tab) (W := 0) (Nat.le_of_ble_eq_true rfl) (Nat.le_of_ble_eq_true rfl) (Nat.le_refl _) (by show 0 + len ≤ len; omega) (g := (mkF m 36 #[.val (.ref a), .val (.ref b), .val (.int (Int32.ofNat o)), .val (.int (Int32.ofNat len)), .val .null, .unset] [.int (Int32.ofNat len), .int (Int32.ofNat o), .ref b])) rfl (by rw [hml]; rfl) c7 (argsL := [.ref b, .int (Int32.ofNat o), .int (Int32.ofNat len)]) (rest := []) rfl rfl (by show 2 * 0 + 0 ≤ _; decide) (hb hbytes d36) (⟨rfl, hA.mv X5.warmed.alike hh5, l1, l2, hp⟩)
  obtain ⟨e8, z8⟩ := E8
  obtain ⟨rfl, N, n1, n2, n3, n4, n5, n6⟩ := NewArr.mv _ T5 s _ _ hh5.symm (Vm.Alike.refl _) rfl e8
  rw [hh5] at z8
  have hB1 := hB.keep X8.warmed.alike (n6 _ _ hB.1)
  have hne : s.heap.size ≠ a := (Nat.ne_of_lt (Array.getElem?_eq_some_iff.mp hB.1).1).symm
  have c9 : Steps p.tables e below (s₁.setTop (entryFrame m #[.ref a, .ref b, .int (Int32.ofNat o), .int (Int32.ofNat len), .null] 6)) (T8.setTop (mkF m 39 #[.val (.ref a), .val (.ref b), .val (.int (Int32.ofNat o)), .val (.int (Int32.ofNat len)), .val .null, .unset] [.ref s.heap.size])) := g8
  have c10 : Steps p.tables e below (s₁.setTop (entryFrame m #[.ref a, .ref b, .int (Int32.ofNat o), .int (Int32.ofNat len), .null] 6)) (T8.setTop (mkF m 45 #[.val (.ref a), .val (.ref b), .val (.int (Int32.ofNat o)), .val (.int (Int32.ofNat len)), .val .null, .val (.ref s.heap.size)] [.int (Int32.ofNat N.slots.size), .ref s.heap.size, .ref a])) := by
    have hc : Steps p.tables e below (s₁.setTop (entryFrame m #[.ref a, .ref b, .int (Int32.ofNat o), .int (Int32.ofNat len), .null] 6)) (T8.setTop (mkF m 45 #[.val (.ref a), .val (.ref b), .val (.int (Int32.ofNat o)), .val (.int (Int32.ofNat len)), .val .null, .val (.ref s.heap.size)] [.int (Int32.ofNat len), .ref s.heap.size, .ref a])) := c9.trans (by
      refine XS.astore X8.here hexec rfl (hb hbytes d39) rfl rfl rfl ?_
      refine XS.aloadN X8.here hexec rfl (hb hbytes d41) rfl rfl ?_
      refine XS.aload X8.here hexec rfl (hb hbytes d42) rfl rfl ?_
      refine XS.iloadN X8.here hexec rfl (hb hbytes d44) rfl ?_
      exact Steps.refl _)
    rw [n4]; exact hc
  obtain ⟨v11, T11, X11, E11, g11⟩ := X8.callS hexec (CodL.law l s.heap.size N) hown (wks W (staticW "java/lang/String" 47 CodL.yN)) (wk W CodL.tab) (W := 1) (Nat.le_of_ble_eq_true rfl) (Nat.le_of_ble_eq_true rfl) (Nat.le_refl _) (by show 0 + len + 0 ≤ len; omega) (g := (mkF m 45 #[.val (.ref a), .val (.ref b), .val (.int (Int32.ofNat o)), .val (.int (Int32.ofNat len)), .val .null, .val (.ref s.heap.size)] [.int (Int32.ofNat N.slots.size), .ref s.heap.size, .ref a])) rfl (by rw [hml]; rfl) c10 (argsL := [.ref s.heap.size, .int (Int32.ofNat N.slots.size)]) (rest := [.ref a]) rfl rfl (by show 2 * 0 + (1 + 0) ≤ _; decide) (hb hbytes d45) (⟨rfl, n1⟩)
  obtain ⟨rfl, q11⟩ := E11
  have hB11 := hB1.mv (X8.warmed.alike.symm.trans X11.warmed.alike) q11
  have c12 : Steps p.tables e below (s₁.setTop (entryFrame m #[.ref a, .ref b, .int (Int32.ofNat o), .int (Int32.ofNat len), .null] 6)) (T11.setTop (mkF m 48 #[.val (.ref a), .val (.ref b), .val (.int (Int32.ofNat o)), .val (.int (Int32.ofNat len)), .val .null, .val (.ref s.heap.size)] [.int 0, .ref a])) := g11
  obtain ⟨T13, X13, p13, bl13, sl13, st13⟩ := X11.finit hexec hown (wk W (.fieldLink "java/lang/String" 15 "java/lang/String" "coder" "B")) (Or.inr ⟨_, (wk W (.laysFinal "java/lang/String" "java/lang/String" "coder" "B"))⟩) (Or.inl ⟨rfl, hnm⟩) f2 (Or.inl rfl) hB11 (t := .byte) (by decide +kernel) rfl (g := (mkF m 48 #[.val (.ref a), .val (.ref b), .val (.int (Int32.ofNat o)), .val (.int (Int32.ofNat len)), .val .null, .val (.ref s.heap.size)] [.int 0, .ref a])) rfl (rest := []) rfl (hb hbytes d48)
  have c14 : Steps p.tables e below (s₁.setTop (entryFrame m #[.ref a, .ref b, .int (Int32.ofNat o), .int (Int32.ofNat len), .null] 6)) (T13.setTop (mkF m 54 #[.val (.ref a), .val (.ref b), .val (.int (Int32.ofNat o)), .val (.int (Int32.ofNat len)), .val .null, .val (.ref s.heap.size)] [.ref s.heap.size, .ref a])) := (c12.trans (st13 _ (Steps.refl _))).trans (by
    refine XS.aloadN X13.here hexec rfl (hb hbytes d51) rfl rfl ?_
    refine XS.aload X13.here hexec rfl (hb hbytes d52) rfl rfl ?_
    exact Steps.refl _)
  obtain ⟨T15, X15, p15, bl15, sl15, st15⟩ := X13.finit hexec hown (wk W (.fieldLink "java/lang/String" 9 "java/lang/String" "value" "[B")) (Or.inr ⟨_, (wk W (.laysFinal "java/lang/String" "java/lang/String" "value" "[B"))⟩) (Or.inl ⟨rfl, hnm⟩) f1 (Or.inl rfl) bl13 (t := (.array .byte)) (by decide +kernel) rfl (g := (mkF m 54 #[.val (.ref a), .val (.ref b), .val (.int (Int32.ofNat o)), .val (.int (Int32.ofNat len)), .val .null, .val (.ref s.heap.size)] [.ref s.heap.size, .ref a])) rfl (rest := []) rfl (hb hbytes d54)
  have c16 : Steps p.tables e below (s₁.setTop (entryFrame m #[.ref a, .ref b, .int (Int32.ofNat o), .int (Int32.ofNat len), .null] 6)) (T15.setTop (mkF m 57 #[.val (.ref a), .val (.ref b), .val (.int (Int32.ofNat o)), .val (.int (Int32.ofNat len)), .val .null, .val (.ref s.heap.size)] [])) := c14.trans (st15 _ (Steps.refl _))
  have ap := apart (Or.inr ⟨_, (wk W (.laysFinal "java/lang/String" "java/lang/String" "value" "[B"))⟩) (Or.inr ⟨_, (wk W (.laysFinal "java/lang/String" "java/lang/String" "coder" "B"))⟩) f1 f2 (t₁ := .array .byte) (t₂ := .byte) (by decide +kernel) (by decide +kernel) (by decide)
  have al := X8.warmed.alike.symm.trans X15.warmed.alike
  have n7 : T11.heap[s.heap.size]? = some N := by rw [q11]; exact n1.1
  exact ⟨T15, none, _, _, _, X15, by simp, rfl, by omega, (fun _ => rfl), ⟨rfl, _, N, bl15, ((Same.refl D _).set _ (by simp)).set _ (by simp), sl15, (Cell.slots_setSlot_ne _ ap).trans sl13, n1.keep al (p15.other hne (p13.other hne n7)), n2, by rw [al.findClass]; exact n3, n4, n5, fun y c h1 h2 => p15.other h1 (p13.other h1 (by rw [q11]; exact n6 y c h2)), by rw [p15.2.2, p13.2.2, q11]; exact z8⟩, fun fs hl => c16.trans (X15.returnOut hexec hret (hb hbytes d57) hl)⟩
end New4
namespace New1
def yN : MethodName := ⟨"java/lang/String", "<init>", "([C)V"⟩
abbrev yB : ByteArray := jdk_42_method_3_code
theorem d0 : decode yB 0 = .ok (.aload_n 0, 1) := by decide +kernel
theorem d1 : decode yB 1 = .ok (.aload_n 1, 1) := by decide +kernel
theorem d2 : decode yB 2 = .ok (.iconst 0, 1) := by decide +kernel
theorem d3 : decode yB 3 = .ok (.aload_n 1, 1) := by decide +kernel
theorem d4 : decode yB 4 = .ok (.arraylength, 1) := by decide +kernel
theorem d5 : decode yB 5 = .ok (.aconst_null, 1) := by decide +kernel
theorem d6 : decode yB 6 = .ok (.invokespecial 27, 3) := by decide +kernel
theorem d9 : decode yB 9 = .ok (.return_, 1) := by decide +kernel
def site : List Cond := [New4.tab] ++ initW "java/lang/String" 27 New4.yN
def tab : Cond := tabOf yN yB 2 none site
def P (a : Addr) (D : Cell) (fV fC : Field) (b : Addr) (A : Cell) (z : Int32) (args : Array Value) (s : State) : Prop := args = #[.ref a, .ref b] ∧ Blank "java/lang/String" a D s ∧ Found "java/lang/String" "value" "[B" fV s ∧ Found "java/lang/String" "coder" "B" fC s ∧ Ch b A s ∧ StaticIs s "java/lang/String" "COMPACT_STRINGS" "Z" (.int z) ∧ ¬ z = 0 ∧ 0 < A.slots.size ∧ A.slots.size ≤ 536870912 ∧ ∀ i, i < A.slots.size → ¬ 255 < cv A i
def E (a : Addr) (D : Cell) (fV fC : Field) (A : Cell) (r : Option Value) (s u : State) : Prop := Got a D fV fC A 0 A.slots.size r s u
/-- new String(chars), not empty, no char above 255: a Latin-1 String of their low bytes -/
theorem law (l : Launch) (a : Addr) (D : Cell) (fV fC : Field) (b : Addr) (A : Cell) (z : Int32) : Law l yN 2 1 3 52 yB 2 none site (P a D fV fC b A z) (E a D fV fC A) [⟨a, fC.slot⟩, ⟨a, fV.slot⟩] 1 A.slots.size := by
  refine Law.of_walk (plainFor_of_name (by decide +kernel)) (by decide +kernel) (by decide +kernel) (by decide) (fun _ _ h => by rw [h.1]; rfl) (fun _ U U' hal hh h => ⟨h.1, h.2.1.mv hal hh, h.2.2.1.al hal, h.2.2.2.1.al hal, h.2.2.2.2.1.mv hal hh, h.2.2.2.2.2.1.there hal hh, h.2.2.2.2.2.2⟩) (fun r U U' V V' h1 hal h2 h => Got.mv r U U' V V' h1 hal h2 h) ?_
  intro p e s m args below meth c s₁ X0 hexec hbytes hml hret hlk hnm hown hh0 W hP
  obtain ⟨rfl, hB, f1, f2, hA, s1, hz, l0, l2, hp⟩ := hP
  have c1 : Steps p.tables e below (s₁.setTop (entryFrame m #[.ref a, .ref b] 2)) (s₁.setTop (mkF m 0 #[.val (.ref a), .val (.ref b)] [])) := entry rfl
  have c2 : Steps p.tables e below (s₁.setTop (entryFrame m #[.ref a, .ref b] 2)) (s₁.setTop (mkF m 6 #[.val (.ref a), .val (.ref b)] [.null, .int (Int32.ofNat A.slots.size), .int 0, .ref b, .ref a])) := c1.trans (by
    refine XS.aloadN X0.here hexec rfl (hb hbytes d0) rfl rfl ?_
    refine XS.aloadN X0.here hexec rfl (hb hbytes d1) rfl rfl ?_
    refine iconstV X0.here hexec rfl 0 (hb hbytes d2) (by decide) ?_
    refine XS.aloadN X0.here hexec rfl (hb hbytes d3) rfl rfl ?_
    refine X0.alen hexec (hA.1.mv X0.warmed.alike hh0) rfl rfl (hb hbytes d4) ?_
    refine XS.aconstNull X0.here hexec rfl (hb hbytes d5) ?_
    exact Steps.refl _)
  obtain ⟨v3, T3, X3, E3, g3⟩ := X0.callN hexec (New4.law l a D fV fC b A z 0 A.slots.size) rfl hown (wks W (initW "java/lang/String" 27 New4.yN)) (W New4.tab (by simp only [site, List.mem_cons, List.mem_append, true_or, or_true])) (W := 0) (Nat.le_of_ble_eq_true rfl) (Nat.le_of_ble_eq_true rfl) (Nat.le_refl _) (by show 0 + A.slots.size ≤ A.slots.size; omega) (g := (mkF m 6 #[.val (.ref a), .val (.ref b)] [.null, .int (Int32.ofNat A.slots.size), .int (Int32.ofNat 0), .ref b, .ref a])) rfl (by rw [hml]; rfl) c2 (argsL := [.ref b, .int (Int32.ofNat 0), .int (Int32.ofNat A.slots.size), .null]) (rest := []) rfl rfl (by show 2 * 0 + 0 ≤ _; decide) (hb hbytes d6) (⟨rfl, hB.mv X0.warmed.alike hh0, f1.al X0.warmed.alike, f2.al X0.warmed.alike, hA.mv X0.warmed.alike hh0, s1.there X0.warmed.alike hh0, hz, l0, by omega, l2, fun i hi => by rw [Nat.zero_add]; exact hp i hi⟩)
  have e0 := Got.mv _ s₁ s _ _ hh0.symm (Vm.Alike.refl _) rfl E3
  obtain rfl := e0.1
  have c4 : Steps p.tables e below (s₁.setTop (entryFrame m #[.ref a, .ref b] 2)) (T3.setTop (mkF m 9 #[.val (.ref a), .val (.ref b)] [])) := g3
  exact ⟨T3, none, _, _, _, X3, by simp, rfl, by omega, (fun _ => rfl), e0, fun fs hl => c4.trans (X3.returnOut hexec hret (hb hbytes d9) hl)⟩
theorem pays {l : Launch} {R : Room} {p : Program} {e : Env} {below : List Frame} {s : State} {sargs : Array Value} {len W : Nat} (a : Addr) (D : Cell) (fV fC : Field) (b : Addr) (A : Cell) (z : Int32) (htab : tab.before sargs s = true) (hfr : 4 ≤ R.frames) (hlo : W + 65 ≤ R.locals) :
    Back l R p e below s sargs yN len W (fun A₁ a₁ => A₁.cells + 1 ≤ R.cells ∧ A₁.slots + A.slots.size ≤ R.slots ∧ P a D fV fC b A z a₁ A₁.U) (fun A₁ _ v₁ B₁ => E a D fV fC A v₁ A₁.U B₁.U ∧ B₁.locs = A₁.locs ++ [⟨a, fC.slot⟩, ⟨a, fV.slot⟩] ∧ B₁.cells = A₁.cells + 1 ∧ B₁.slots = A₁.slots + A.slots.size) :=
  (law l a D fV fC b A z).pays htab hfr (by omega)
end New1
end StrChars
namespace StrChars.Road
open Jvm Sem ClassFile Op Lib Jvm.Stand Jvm.Free Jvm.Free.XT
open Jvm.Lib.Cold (StaticIs)
abbrev ST : String := "java/lang/String"
/-- every table word that New1's law asks, flat -/
abbrev words : List Jvm.Cond := [.code New1.yN New1.yB 2 none, .initialized ST, .methodLink ST 27 New4.yN, .instanceMethod New4.yN,
  .code New4.yN New4.yB 6 none, .fieldLink ST 38 ST "COMPACT_STRINGS" "Z", .laysFinal ST ST "value" "[B", .fieldLink ST 9 ST "value" "[B", .laysFinal ST ST "coder" "B", .fieldLink ST 15 ST "coder" "B",
  .methodLink ST 1 Lib.objectInit, .instanceMethod Lib.objectInit, .code Lib.objectInit ⟨#[0xb1]⟩ 1 none, .methodLink ST 177 Cmp3.yN, .static Cmp3.yN, .methodLink ST 47 CodL.yN, .static CodL.yN,
  .code Cmp3.yN Cmp3.yB 6 (some (.array .byte)), .initialized U16, .arrayClass .byte, .methodLink U16 115 Cmp5.yN, .static Cmp5.yN, .code Cmp5.yN Cmp5.yB 7 (some .int), .code CodL.yN CodL.yB 2 (some .byte)]
theorem tab_of {a : Array Value} {s : State} (h : ∀ w ∈ words, w.before a s = true) : New1.tab.before a s = true := by
  have h5 : Cmp5.tab.before a s = true := unparts (wk h (.code Cmp5.yN Cmp5.yB 7 (some .int))) (wks h (.initialized Cmp5.yN.cls :: Cmp5.site))
  have hc : CodL.tab.before a s = true := unparts (wk h (.code CodL.yN CodL.yB 2 (some .byte))) (wks h (.initialized CodL.yN.cls :: CodL.site))
  have q5 : ∀ w ∈ Cmp5.tab :: words, w.before a s = true := fun w hw => (List.mem_cons.mp hw).elim (fun e => e ▸ h5) (h w)
  have h3 : Cmp3.tab.before a s = true := unparts (wk q5 (.code Cmp3.yN Cmp3.yB 6 (some (.array .byte)))) (wks q5 (.initialized Cmp3.yN.cls :: Cmp3.site))
  have q3 : ∀ w ∈ Cmp3.tab :: CodL.tab :: words, w.before a s = true := fun w hw => (List.mem_cons.mp hw).elim (fun e => e ▸ h3) fun hw => (List.mem_cons.mp hw).elim (fun e => e ▸ hc) (h w)
  have h4 : New4.tab.before a s = true := unparts (wk q3 (.code New4.yN New4.yB 6 none)) (wks q3 (.initialized New4.yN.cls :: New4.site))
  have q4 : ∀ w ∈ New4.tab :: words, w.before a s = true := fun w hw => (List.mem_cons.mp hw).elim (fun e => e ▸ h4) (h w)
  exact unparts (wk q4 (.code New1.yN New1.yB 2 none)) (wks q4 (.initialized New1.yN.cls :: New1.site))
/-- the words ride from the start Z to the walk's own state -/
theorem moved {Z s : State} {a0 args : Array Value} (hZ : Z.Warmed39 s.vm) (hw : ∀ d ∈ words, d.before a0 Z = true) : ∀ d ∈ words, d.before args s = true := fun d hd => by
  have q := hw d hd
  have t : ∀ d ∈ words, d = .arrayClass .byte ∨ (d.onTables && d.keepsFace) = true := by decide +kernel
  rcases t d hd with rfl | t
  · exact RoadKit.mvA hZ q
  · exact RoadKit.mv hZ q t
/-- WHAT COMES BACK, over the tables of the start Z: h the heap at the call, h' behind it -/
def Q (Z : State) (x : Addr) (A : Cell) (h : Heap) (v : Option Value) (h' : Heap) (L : List Loc) : Prop := v = none ∧ (∀ y ∈ L, y.base = x) ∧ RoadKit.Keep h h' [x] ∧ h'.size = h.size + 1 ∧ RoadKit.Exa Z h' x ST ∧ RoadKit.Fld Z h' x ST "value" "[B" (.ref h.size) ∧ RoadKit.Fld Z h' x ST "coder" "B" (.int 0) ∧
  (∃ V : Cell, RoadKit.Arr Z h' h.size V .byte ∧ V.vm = .none ∧ Z.vm.findClass "[B" = some V.cls ∧ V.slots.size = A.slots.size ∧ ∀ j, j < A.slots.size → V.slots[j]? = some (.int (lo8 (cv A j)))) ∧
  ∀ (O n d : String) (w : Value), RoadKit.Fld Z h x O n d w → RoadKit.slotOf Z O n d ≠ RoadKit.slotOf Z ST "value" "[B" → RoadKit.slotOf Z O n d ≠ RoadKit.slotOf Z ST "coder" "B" → RoadKit.Fld Z h' x O n d w
/-- **new String(chars) AT A CALL, IN THE ROAD'S FORM**: for specialBack behind newO: x the fresh String, b the char[] with the cell A -/
theorem back {p : Program} {l : Launch} {e : Env} {R : Room} {s : State} {args : Array Value} {below : List Frame} {len W : Nat} {Z : State} {a0 : Array Value} {h : Heap} (hZ : Z.Warmed39 s.vm) (hw : ∀ d ∈ words, d.before a0 Z = true) {kI : Nat} (wi : (Jvm.Cond.instantiable ST kI).before a0 Z = true)
    {x b : Addr} {A : Cell} {z : Int32} {v0 c0 : Value} (E : RoadKit.Exa Z h x ST) (V : RoadKit.Fld Z h x ST "value" "[B" v0) (C : RoadKit.Fld Z h x ST "coder" "B" c0) (K : RoadKit.Arr Z h b A .char) (hty : Typed .char A) (S : RoadKit.Sta Z h ST "COMPACT_STRINGS" "Z" (.int z)) (hz : ¬ z = 0)
    (l0 : 0 < A.slots.size) (l2 : A.slots.size ≤ 536870912) (hp : ∀ i, i < A.slots.size → ¬ 255 < cv A i) (hfr : 4 ≤ R.frames) (hlo : W + 65 ≤ R.locals) :
    Back l R p e below s args New1.yN len W (fun P a => a = #[.ref x, .ref b] ∧ P.U.heap = h ∧ P.cells + 1 ≤ R.cells ∧ P.slots + A.slots.size ≤ R.slots)
      (fun P _ v B => ∃ L, Q Z x A h v B.U.heap L ∧ B.locs = P.locs ++ L ∧ B.cells = P.cells + 1 ∧ B.slots = P.slots + A.slots.size) := by
  intro m meth c P g ig mk a X hg hsize hdg hW hn hp'
  obtain ⟨rfl, rfl, r1, r2⟩ := hp'
  have al : Z.vm.Alike P.U.vm := hZ.alike.trans X.warmed.alike
  obtain ⟨D, cfV, kV, iV, fV, hD, gV, stV, knV, obV, asV, slV⟩ := id V
  obtain ⟨D', cfC, kC, iC, fC, hD', gC, stC, -, -, asC, slC⟩ := id C
  cases hD.symm.trans hD'
  obtain ⟨D2, kD, e1, e2, e3, e4, e5⟩ := id E
  cases hD.symm.trans e1
  obtain ⟨c2, k2, i1, i2, i3, -⟩ := Cond.instantiable_spec wi
  cases e2.symm.trans i1
  cases e3.symm.trans i2
  obtain ⟨kU, u1, u2⟩ := al.2.2 _ _ e3
  have hB : Blank ST x D P.U := ⟨hD, ⟨knV, fun q hq => by rw [hq] at obV; cases obV⟩, by rw [al.findClass]; exact e2, kU, u1, by rw [u2]; exact i3, by rw [u2]; exact e5 i3⟩
  have F1 : Found ST "value" "[B" fV P.U := ⟨SBG.found_only al ⟨cfV, kV, iV, gV⟩, stV⟩
  have F2 : Found ST "coder" "B" fC P.U := ⟨SBG.found_only al ⟨cfC, kC, iC, gC⟩, stC⟩
  have hA : Ch b A P.U := ⟨⟨K.1, State.isArrayOf_alike al K.2.1, K.2.2, by omega⟩, hty⟩
  have hS : StaticIs P.U ST "COMPACT_STRINGS" "Z" (.int z) := by
    obtain ⟨cfS, iS, kS, fS, st, cS, t1, t2, t3, t4, t5, t6, t7⟩ := S
    exact StaticIs.there (s := { Z with heap := P.U.heap }) ⟨cfS, iS, kS, fS, st, cS, t1, t2, t3, t4, t5, (fun q => by rw [q] at t6; cases t6), t7⟩ al rfl
  obtain ⟨v, B, X', ⟨⟨hv, E', V', q1, q2, q3, q4, q5, q6, q7, q8, q9, q10, q11⟩, hl, hc, hs⟩, st⟩ := New1.pays x D fV fC b A z (tab_of (moved hZ hw)) hfr hlo m meth c P g ig mk _ X hg hsize hdg hW hn ⟨r1, r2, rfl, hB, F1, F2, hA, hS, hz, l0, l2, hp⟩
  have al' : Z.vm.Alike B.U.vm := hZ.alike.trans X'.warmed.alike
  have hsz : E'.slots.size = D.slots.size := by
    obtain ⟨-, -, -, kB, w1, w2, w3⟩ := q1
    obtain ⟨kB', y1, y2⟩ := al'.2.2 _ _ e3
    rw [q2.2.1] at w1
    cases w1.symm.trans y1
    rw [w3, e5 i3, y2]
  refine ⟨v, B, X', ⟨_, ⟨hv, ?_, ⟨by omega, fun y cy hy hn' => q10 y cy (by simpa using hn') hy, fun y cy hy => ?_⟩, q11, ⟨E', _, q1.1, by rw [q2.2.1]; exact e2, by rw [q2.2.1]; exact e3, by rw [q2.1]; exact obV, fun _ => by rw [hsz]; exact e5 i3⟩,
    ⟨E', cfV, kV, iV, fV, q1.1, gV, stV, by rw [q2.1]; exact knV, by rw [q2.1]; exact obV, by rw [q2.2.1]; exact asV, q3⟩, ⟨E', cfC, kC, iC, fC, q1.1, gC, stC, by rw [q2.1]; exact knV, by rw [q2.1]; exact obV, by rw [q2.2.1]; exact asC, q4⟩,
    ⟨V', ⟨q5.1, State.isArrayOf_alike al'.symm q5.2.1, q5.2.2.1⟩, q6, by rw [← al'.findClass]; exact q7, q8, fun j hj => by have := q9 j hj; rwa [Nat.zero_add] at this⟩, fun O n d w F n1 n2 => ?_⟩, hl, hc, hs⟩, st⟩
  · intro y hy
    simp only [List.mem_cons, List.not_mem_nil, or_false] at hy
    rcases hy with rfl | rfl <;> rfl
  · by_cases q : y = x
    · subst q
      cases hD.symm.trans hy
      exact ⟨E', q1.1, q2.2.1, q2.1, hsz⟩
    · exact ⟨cy, q10 y cy q hy, rfl, rfl, rfl⟩
  · obtain ⟨D3, cf, k, i, f, g1, g2, g3, g4, g5, g6, g7⟩ := F
    cases hD.symm.trans g1
    simp only [RoadKit.slotOf, g2, gV, gC, Option.map_some, Option.getD_some] at n1 n2
    exact ⟨E', cf, k, i, f, q1.1, g2, g3, by rw [q2.1]; exact g4, by rw [q2.1]; exact g5, by rw [q2.2.1]; exact g6, by rw [q2.2.2 f.slot (by simp [n1, n2])]; exact g7⟩
end StrChars.Road
namespace StrChars.Road
open Jvm Sem ClassFile Op Lib Jvm.Stand Jvm.Free Jvm.Free.XT
/-- WHAT COMES BACK, the byte[] as a list of values -/
def QA (Z : State) (x : Addr) (zn : Int32) (cs : List Int32) (h : Heap) (v : Option Value) (h' : Heap) (L : List Loc) : Prop := v = none ∧ (∀ y ∈ L, y.base = x) ∧ RoadKit.Keep h h' [x] ∧ h'.size = h.size + 1 ∧ RoadKit.Exa Z h' x ST ∧ RoadKit.Fld Z h' x ST "value" "[B" (.ref h.size) ∧ RoadKit.Fld Z h' x ST "coder" "B" (.int 0) ∧
  (∃ kb, Z.vm.findClass "[B" = some kb ∧ RoadKit.Arv Z h' h.size kb .byte zn (cs.map fun c => .int (lo8 c)) (.int 0)) ∧
  ∀ (O n d : String) (w : Value), RoadKit.Fld Z h x O n d w → RoadKit.slotOf Z O n d ≠ RoadKit.slotOf Z ST "value" "[B" → RoadKit.slotOf Z O n d ≠ RoadKit.slotOf Z ST "coder" "B" → RoadKit.Fld Z h' x O n d w
/-- **new String(chars) AT A CALL, THE ARRAYS AS LISTS**: the char[] at b holds cs, not empty, no char above 255 -/
theorem backArv {p : Program} {l : Launch} {e : Env} {R : Room} {s : State} {args : Array Value} {below : List Frame} {len W : Nat} {Z : State} {a0 : Array Value} {h : Heap} (hZ : Z.Warmed39 s.vm) (hw : ∀ d ∈ words, d.before a0 Z = true) {kI : Nat} (wi : (Jvm.Cond.instantiable ST kI).before a0 Z = true)
    {x b : Addr} {k : ClassId} {zn z : Int32} {cs : List Int32} {dv v0 c0 : Value} (E : RoadKit.Exa Z h x ST) (V : RoadKit.Fld Z h x ST "value" "[B" v0) (C : RoadKit.Fld Z h x ST "coder" "B" c0) (K : RoadKit.Arv Z h b k .char zn (cs.map Value.int) dv) (S : RoadKit.Sta Z h ST "COMPACT_STRINGS" "Z" (.int z)) (hz : ¬ z = 0)
    (hlen : zn.toNatClampNeg = cs.length) (h0 : 0 < cs.length) (hbig : cs.length ≤ 536870912) (hall : ∀ c ∈ cs, ¬ 255 < c) (hfr : 4 ≤ R.frames) (hlo : W + 65 ≤ R.locals) :
    Back l R p e below s args New1.yN len W (fun P a => a = #[.ref x, .ref b] ∧ P.U.heap = h ∧ P.cells + 1 ≤ R.cells ∧ P.slots + cs.length ≤ R.slots)
      (fun P _ v B => ∃ L, QA Z x zn cs h v B.U.heap L ∧ B.locs = P.locs ++ L ∧ B.cells = P.cells + 1 ∧ B.slots = P.slots + cs.length) := by
  obtain ⟨A, K1, K2, K3, K4, K5, K6⟩ := K
  have e : A.slots.size = cs.length := K3.trans hlen
  have hat : ∀ (i : Nat) (hi : i < cs.length), A.slots[i]? = some (.int cs[i]) := fun i hi => by rw [K5 i (by omega)]; simp [List.getD_eq_getElem?_getD, hi]
  have hcv : ∀ (i : Nat) (hi : i < cs.length), cv A i = cs[i] := fun i hi => by unfold cv; rw [hat i hi]
  have hty : Typed .char A := fun i v hv => by
    have hi : i < A.slots.size := (Array.getElem?_eq_some_iff.mp hv).1
    have q := K5 i hi
    rw [hv] at q
    rw [Option.some.inj q]
    exact K6 i hi
  refine Back.mono (back hZ hw wi E V C K1 hty S hz (by omega) (by omega) (fun i hi => by rw [hcv i (by omega)]; exact hall _ (List.getElem_mem _)) hfr hlo) (fun P a hp => ⟨hp.1, hp.2.1, hp.2.2.1, by rw [e]; exact hp.2.2.2⟩) (fun P a v B hp hq => ?_)
  obtain ⟨L, ⟨q1, q2, q3, q4, q5, q6, q7, ⟨V', v1, v2, v3, v4, v5⟩, q9⟩, hl, hc, hs⟩ := hq
  refine ⟨L, ⟨q1, q2, q3, q4, q5, q6, q7, ⟨V'.cls, v3, V', v1, rfl, by rw [v4, e, hlen], K4, fun i hi => ?_, fun i hi => ?_⟩, q9⟩, hl, hc, by rw [hs, e]⟩
  · have hi' : i < cs.length := by omega
    rw [v5 i (by omega), hcv i hi']; simp [List.getD_eq_getElem?_getD, hi']
  · have hi' : i < cs.length := by omega
    simp only [List.getD_eq_getElem?_getD, List.getElem?_map, List.getElem?_eq_getElem hi', Option.map_some, Option.getD_some]
    exact fits_lo8 _
end StrChars.Road
namespace StrChars.Road
open Jvm Sem ClassFile Op Lib Jvm.Stand Jvm.Free Jvm.Free.XT
/-- WHAT COMES BACK, in the writer's own shape -/
def QV (Z : State) (x : Addr) (N : Int32) (bs : List Int32) (h : Heap) (n0 : Nat) (v : Option Value) (h' : Heap) (L : List Loc) : Prop := v = none ∧ RoadKit.Fr n0 L ∧ RoadKit.Keep h h' [x] ∧ RoadKit.Exa Z h' x ST ∧ RoadKit.Fld Z h' x ST "coder" "B" (.int 0) ∧
  ∃ (t : Addr) (kb : ClassId), n0 ≤ t ∧ h.size ≤ t ∧ ¬ t = x ∧ RoadKit.Fld Z h' x ST "value" "[B" (.ref t) ∧ RoadKit.Arv Z h' t kb .byte N (bs.map Value.int) (.int 0)
/-- **new String(chars) AT A CALL, FOR THE WRITER**: a char[] of n known ints, each 0 to 255 -/
theorem backV {p : Program} {l : Launch} {e : Env} {R : Room} {s : State} {args : Array Value} {below : List Frame} {len W : Nat} {Z : State} {a0 : Array Value} {h : Heap} (hZ : Z.Warmed39 s.vm) (hw : ∀ d ∈ words, d.before a0 Z = true) {kI : Nat} (wi : (Jvm.Cond.instantiable ST kI).before a0 Z = true)
    {x b : Addr} {kC : ClassId} {cs bs : List Int32} {d v0 c0 : Value} {z N : Int32} {n n0 : Nat} (hx0 : n0 ≤ x) (hh0 : n0 ≤ h.size) (E : RoadKit.Exa Z h x ST) (V : RoadKit.Fld Z h x ST "value" "[B" v0) (C : RoadKit.Fld Z h x ST "coder" "B" c0) (K : RoadKit.Arv Z h b kC .char N (cs.map Value.int) d) (S : RoadKit.Sta Z h ST "COMPACT_STRINGS" "Z" (.int z)) (hz : ¬ z = 0)
    (hn : cs.length = n) (hN : N = Int32.ofNat n) (l0 : 0 < n) (l2 : n ≤ 4000) (hp : ∀ c ∈ cs, ¬ c < 0 ∧ ¬ (255 : Int32) < c) (hb : bs = cs.map (fun c => c.toInt8.toInt32)) (hfr : 4 ≤ R.frames) (hlo : W + 65 ≤ R.locals) :
    Back l R p e below s args (⟨"java/lang/String", "<init>", "([C)V"⟩ : MethodName) len W (fun P a => a = #[.ref x, .ref b] ∧ P.U.heap = h ∧ P.cells + 1 ≤ R.cells ∧ P.slots + n ≤ R.slots)
      (fun P _ v B => ∃ L, QV Z x N bs h n0 v B.U.heap L ∧ B.locs = P.locs ++ L ∧ B.cells = P.cells + 1 ∧ B.slots = P.slots + n) := by
  subst hn hN hb
  refine Back.mono (backArv hZ hw wi E V C K S hz (n32 (by omega)) l0 (by omega) (fun c hc => (hp c hc).2) hfr hlo) (fun P a hp => hp) (fun P a v B hp hq => ?_)
  obtain ⟨L, ⟨q1, q2, q3, q4, q5, q6, q7, ⟨kb, v1, v2⟩, q9⟩, hl, hc, hs⟩ := hq
  exact ⟨L, ⟨q1, fun y hy => by rw [q2 y hy]; exact hx0, q3, q5, q7, h.size, kb, hh0, Nat.le_refl _, Nat.ne_of_gt E.lt, q6, by rw [List.map_map]; exact v2⟩, hl, hc, hs⟩
end StrChars.Road
namespace StrChars
open Jvm Sem ClassFile Op Lib Jvm.Stand Jvm.Free.XT Jvm.Free.ALB Jvm.Free.JM Jvm.Free
open Jvm.Lib.Cold (StaticIs)
def hi8 (x : Int32) : Int32 := lo8 (x >>> ((8 : Int32) &&& 31))
theorem shr0 (c : Int32) : c >>> ((0 : Int32) &&& 31) = c := by
  have e : ((0 : Int32) &&& 31) = 0 := by decide
  rw [e]
  apply Int32.toBitVec_inj.mp
  rw [Int32.toBitVec_shiftRight]
  have e1 : ((0 : Int32).toBitVec.smod 32) = 0#32 := by decide
  rw [e1, BitVec.sshiftRight_eq']
  exact BitVec.sshiftRight_zero
end StrChars
namespace StrChars
open Jvm Sem ClassFile Op Lib Jvm.Stand Jvm.Free.XT Jvm.Free.ALB Jvm.Free.JM Jvm.Free
open Jvm.Lib.Cold (StaticIs)
theorem shr1 {n : Nat} (h : 2 * n < 2 ^ 31) : Int32.ofNat (2 * n) >>> ((1 : Int32) &&& 31) = Int32.ofNat n := by
  have e : ((1 : Int32) &&& 31) = 1 := by decide
  rw [e]
  apply Int32.toBitVec_inj.mp
  rw [Int32.toBitVec_shiftRight]
  have e1 : ((1 : Int32).toBitVec.smod 32) = 1#32 := by decide
  have hm : (BitVec.ofNat 32 (2 * n)).toNat = 2 * n := by rw [BitVec.toNat_ofNat, Nat.mod_eq_of_lt (by omega)]
  rw [e1, BitVec.sshiftRight_eq']
  apply BitVec.eq_of_toNat_eq
  show ((BitVec.ofNat 32 (2 * n)).sshiftRight 1).toNat = (BitVec.ofNat 32 n).toNat
  rw [BitVec.toNat_sshiftRight_of_msb_false (by rw [BitVec.msb_eq_false_iff_two_mul_lt, hm]; omega), hm, BitVec.toNat_ofNat, Nat.shiftRight_eq_div_pow]
  omega
/-- the array's cell V codes the n chars f 0 .. f (n - 1) by the coder cd, as the JDK does: coder 1 just where some char is above 255 -/
def Cod (cd : Int32) (n : Nat) (f : Nat → Int32) (V : Cell) : Prop := (cd = 0 ∧ V.slots.size = n ∧ ∀ j, j < n → V.slots[j]? = some (.int (lo8 (f j))) ∧ ¬ 255 < f j) ∨ (cd = 1 ∧ V.slots.size = 2 * n ∧ (∀ j, j < n → V.slots[2 * j]? = some (.int (lo8 (f j))) ∧ V.slots[2 * j + 1]? = some (.int (hi8 (f j)))) ∧ ∃ j, j < n ∧ 255 < f j)
theorem Cod.cd {cd : Int32} {n : Nat} {f : Nat → Int32} {V : Cell} (h : Cod cd n f V) : cd = 0 ∨ cd = 1 := h.imp (fun q => q.1) fun q => q.1
theorem Cod.len {cd : Int32} {n : Nat} {f : Nat → Int32} {V : Cell} (h : Cod cd n f V) (hs : V.slots.size < 2 ^ 31) : Int32.ofNat V.slots.size >>> (cd &&& 31) = Int32.ofNat n := by
  rcases h with ⟨rfl, h, -⟩ | ⟨rfl, h, -⟩
  · rw [shr0, h]
  · rw [h, shr1 (by omega)]
/-- **x is a String of the n chars f 0 .. f (n - 1)**, Latin-1 or UTF-16; its array at t has the cell V -/
def Txt (x t : Addr) (V : Cell) (cd : Int32) (n : Nat) (f : Nat → Int32) (U : State) : Prop := Exact "java/lang/String" x U ∧ Has x "java/lang/String" "value" "[B" (.ref t) U ∧ Has x "java/lang/String" "coder" "B" (.int cd) U ∧ XT.Arr .byte t V U ∧ Cod cd n f V ∧ ∀ j, j < n → ¬ f j < 0 ∧ ¬ 65535 < f j
theorem Txt.mv {x t : Addr} {V : Cell} {cd : Int32} {n : Nat} {f : Nat → Int32} {U U' : State} (h : Txt x t V cd n f U) (hal : U.vm.Alike U'.vm) (hh : U'.heap = U.heap) : Txt x t V cd n f U' := ⟨h.1.mv hal hh, h.2.1.mv hal hh, h.2.2.1.mv hal hh, h.2.2.2.1.mv hal hh, h.2.2.2.2⟩
namespace Cdr
def yN : MethodName := ⟨"java/lang/String", "coder", "()B"⟩
abbrev yB : ByteArray := jdk_42_method_152_code
theorem d0 : decode yB 0 = .ok (.getstatic 38, 3) := by decide +kernel
theorem d3 : decode yB 3 = .ok (.ifCond (.eq) 10, 3) := by decide +kernel
theorem d6 : decode yB 6 = .ok (.aload_n 0, 1) := by decide +kernel
theorem d7 : decode yB 7 = .ok (.getfield 15, 3) := by decide +kernel
theorem d10 : decode yB 10 = .ok (.goto 4, 3) := by decide +kernel
theorem d14 : decode yB 14 = .ok (.ireturn, 1) := by decide +kernel
def site : List Cond := [.fieldLink "java/lang/String" 38 "java/lang/String" "COMPACT_STRINGS" "Z", .fieldLink "java/lang/String" 15 "java/lang/String" "coder" "B"]
def tab : Cond := tabOf yN yB 1 (some .byte) site
def P (x : Addr) (cd z : Int32) (args : Array Value) (s : State) : Prop := args = #[.ref x] ∧ Has x "java/lang/String" "coder" "B" (.int cd) s ∧ (cd = 0 ∨ cd = 1) ∧ StaticIs s "java/lang/String" "COMPACT_STRINGS" "Z" (.int z) ∧ ¬ z = 0
def E (cd : Int32) (r : Option Value) (s u : State) : Prop := XT.PureE (some (.int cd)) r s u
theorem law (l : Launch) (x : Addr) (cd z : Int32) : Law l yN 1 0 0 0 yB 1 (some .byte) site (P x cd z) (E cd) [] 0 0 := by
  refine Law.of_walk (plainFor_of_name (by decide +kernel)) (by decide +kernel) (by decide +kernel) (by decide) (fun _ _ h => by rw [h.1]; rfl) (fun _ U U' hal hh h => ⟨h.1, h.2.1.mv hal hh, h.2.2.1, h.2.2.2.1.there hal hh, h.2.2.2.2⟩) (fun r U U' V V' h1 hal h2 h => XT.PureE.mv r U U' V V' h1 hal h2 h) ?_
  intro p e s m args below meth c s₁ X0 hexec hbytes hml hret hlk hnm hown hh0 W hP
  obtain ⟨rfl, hx, hc, s1, hz⟩ := hP
  have c1 : Steps p.tables e below (s₁.setTop (entryFrame m #[.ref x] 1)) (s₁.setTop (mkF m 0 #[.val (.ref x)] [])) := entry rfl
  obtain ⟨T2, X2, q2, st2⟩ := X0.sget hexec hown (wk W (.fieldLink "java/lang/String" 38 "java/lang/String" "COMPACT_STRINGS" "Z")) s1 (fun _ _ h => by rw [hh0]; exact h) (g := (mkF m 0 #[.val (.ref x)] [])) rfl (hb hbytes d0)
  have hh2 := q2.trans hh0
  have c3 : Steps p.tables e below (s₁.setTop (entryFrame m #[.ref x] 1)) (T2.setTop (mkF m 7 #[.val (.ref x)] [.ref x])) := (c1.trans (st2 _ (Steps.refl _))).trans (by
    refine XS.ifNo X2.here hexec rfl (hb hbytes d3) rfl (i0_eq_f hz) ?_
    refine XS.aloadN X2.here hexec rfl (hb hbytes d6) rfl rfl ?_
    exact Steps.refl _)
  obtain ⟨T4, X4, q4, st4⟩ := X2.hget hexec hown (wk W (.fieldLink "java/lang/String" 15 "java/lang/String" "coder" "B")) (hx.mv X2.warmed.alike hh2) (g := (mkF m 7 #[.val (.ref x)] [.ref x])) rfl (rest := []) rfl (hb hbytes d7)
  have c5 : Steps p.tables e below (s₁.setTop (entryFrame m #[.ref x] 1)) (T4.setTop (mkF m 14 #[.val (.ref x)] [.int cd])) := (c3.trans (st4 _ (Steps.refl _))).trans (by
    refine XS.goto X4.here hexec rfl (pc0 := 10) rfl (hb hbytes d10) (by decide) rfl ?_
    exact Steps.refl _)
  exact ⟨T4, some (.int cd), _, _, _, X4, rfl, rfl, rfl, (fun h => by cases h), ⟨rfl, q4.trans hh2⟩, fun fs hl => c5.trans (X4.ireturnOut hexec hret (by rcases hc with rfl | rfl <;> rfl) (Or.inr (Or.inr (Or.inl rfl))) (hb hbytes d14) hl)⟩
end Cdr
namespace Len
def yN : MethodName := ⟨"java/lang/String", "length", "()I"⟩
abbrev yB : ByteArray := jdk_42_method_54_code
theorem d0 : decode yB 0 = .ok (.aload_n 0, 1) := by decide +kernel
theorem d1 : decode yB 1 = .ok (.getfield 9, 3) := by decide +kernel
theorem d4 : decode yB 4 = .ok (.arraylength, 1) := by decide +kernel
theorem d5 : decode yB 5 = .ok (.aload_n 0, 1) := by decide +kernel
theorem d6 : decode yB 6 = .ok (.invokevirtual 335, 3) := by decide +kernel
theorem d9 : decode yB 9 = .ok (.ishr, 1) := by decide +kernel
theorem d10 : decode yB 10 = .ok (.ireturn, 1) := by decide +kernel
def site : List Cond := [.fieldLink "java/lang/String" 9 "java/lang/String" "value" "[B", Cdr.tab] ++ virtW "java/lang/String" 335 "java/lang/String" Cdr.yN Cdr.yN
def tab : Cond := tabOf yN yB 1 (some .int) site
def P (x t : Addr) (V : Cell) (cd : Int32) (n : Nat) (f : Nat → Int32) (z : Int32) (args : Array Value) (s : State) : Prop := args = #[.ref x] ∧ Txt x t V cd n f s ∧ StaticIs s "java/lang/String" "COMPACT_STRINGS" "Z" (.int z) ∧ ¬ z = 0
def E (n : Nat) (r : Option Value) (s u : State) : Prop := XT.PureE (some (.int (Int32.ofNat n))) r s u
/-- length() of a String of n chars, in either coding -/
theorem law (l : Launch) (x t : Addr) (V : Cell) (cd : Int32) (n : Nat) (f : Nat → Int32) (z : Int32) : Law l yN 1 0 1 13 yB 1 (some .int) site (P x t V cd n f z) (E n) [] 0 0 := by
  refine Law.of_walk (plainFor_of_name (by decide +kernel)) (by decide +kernel) (by decide +kernel) (by decide) (fun _ _ h => by rw [h.1]; rfl) (fun _ U U' hal hh h => ⟨h.1, h.2.1.mv hal hh, h.2.2.1.there hal hh, h.2.2.2⟩) (fun r U U' V V' h1 hal h2 h => XT.PureE.mv r U U' V V' h1 hal h2 h) ?_
  intro p e s m args below meth c s₁ X0 hexec hbytes hml hret hlk hnm hown hh0 W hP
  obtain ⟨rfl, hx, s1, hz⟩ := hP
  have v31 := hx.2.2.2.1.2.2.2
  have c1 : Steps p.tables e below (s₁.setTop (entryFrame m #[.ref x] 1)) (s₁.setTop (mkF m 1 #[.val (.ref x)] [.ref x])) := Steps.trans (entry rfl) (by
    show Steps p.tables e below (s₁.setTop (mkF m 0 #[.val (.ref x)] [])) _
    refine XS.aloadN X0.here hexec rfl (hb hbytes d0) rfl rfl ?_
    exact Steps.refl _)
  obtain ⟨T2, X2, q2, st2⟩ := X0.hget hexec hown (wk W (.fieldLink "java/lang/String" 9 "java/lang/String" "value" "[B")) (hx.mv X0.warmed.alike hh0).2.1 (g := (mkF m 1 #[.val (.ref x)] [.ref x])) rfl (rest := []) rfl (hb hbytes d1)
  have hh2 := q2.trans hh0
  have hx2 := hx.mv X2.warmed.alike hh2
  have c3 : Steps p.tables e below (s₁.setTop (entryFrame m #[.ref x] 1)) (T2.setTop (mkF m 6 #[.val (.ref x)] [.ref x, .int (Int32.ofNat V.slots.size)])) := (c1.trans (st2 _ (Steps.refl _))).trans (by
    refine X2.alen hexec hx2.2.2.2.1 rfl rfl (hb hbytes d4) ?_
    refine XS.aloadN X2.here hexec rfl (hb hbytes d5) rfl rfl ?_
    exact Steps.refl _)
  obtain ⟨v4, T4, X4, E4, g4⟩ := X2.callV hexec (Cdr.law l x cd z) hown (wks W (virtW "java/lang/String" 335 "java/lang/String" Cdr.yN Cdr.yN)) rfl (by decide) (wk W Cdr.tab) (W := 1) (Nat.le_of_ble_eq_true rfl) (Nat.le_of_ble_eq_true rfl) (Nat.le_refl _) (Nat.le_refl _) (hx2.1.fc X2.warmed.alike) hx2.1.is (g := (mkF m 6 #[.val (.ref x)] [.ref x, .int (Int32.ofNat V.slots.size)])) rfl (by rw [hml]; rfl) c3 (argsL := []) (rest := [.int (Int32.ofNat V.slots.size)]) rfl rfl (by show 2 * 0 + (1 + 0) ≤ _; decide) (hb hbytes d6) (⟨rfl, hx2.2.2.1, hx.2.2.2.2.1.cd, s1.there X2.warmed.alike hh2, hz⟩)
  obtain ⟨rfl, q4⟩ := E4
  have c5 : Steps p.tables e below (s₁.setTop (entryFrame m #[.ref x] 1)) (T4.setTop (mkF m 10 #[.val (.ref x)] [.int (Int32.ofNat V.slots.size >>> (cd &&& 31))])) := Steps.trans g4 (by
    refine ishr X4.here hexec rfl (hb hbytes d9) rfl ?_
    exact Steps.refl _)
  rw [hx.2.2.2.2.1.len v31] at c5
  exact ⟨T4, some (.int (Int32.ofNat n)), _, _, _, X4, rfl, rfl, rfl, (fun h => by cases h), ⟨rfl, q4.trans hh2⟩, fun fs hl => c5.trans (X4.ireturnOut hexec hret rfl (Or.inl rfl) (hb hbytes d10) hl)⟩
theorem pays {l : Launch} {R : Room} {p : Program} {e : Env} {below : List Frame} {s : State} {sargs : Array Value} {len W : Nat} (x t : Addr) (V : Cell) (cd : Int32) (n : Nat) (f : Nat → Int32) (z : Int32) (htab : tab.before sargs s = true) (hfr : 2 ≤ R.frames) (hlo : W + 25 ≤ R.locals) :
    Back l R p e below s sargs yN len W (fun A₁ a₁ => A₁.cells + 0 ≤ R.cells ∧ A₁.slots + 0 ≤ R.slots ∧ P x t V cd n f z a₁ A₁.U) (fun A₁ _ v₁ B₁ => E n v₁ A₁.U B₁.U ∧ B₁.locs = A₁.locs ++ [] ∧ B₁.cells = A₁.cells + 0 ∧ B₁.slots = A₁.slots + 0) :=
  (law l x t V cd n f z).pays htab hfr (by omega)
end Len
end StrChars
namespace StrChars.Road
open Jvm Sem ClassFile Op Lib Jvm.Stand Jvm.Free Jvm.Free.XT
open Jvm.Lib.Cold (StaticIs)
theorem consq {a : Array Value} {s : State} {c : Jvm.Cond} {L : List Jvm.Cond} (h0 : c.before a s = true) (h : ∀ w ∈ L, w.before a s = true) : ∀ w ∈ c :: L, w.before a s = true := fun w hw => (List.mem_cons.mp hw).elim (fun e => e ▸ h0) (h w)
/-- the words of String.length(), either coding -/
abbrev wordsLen : List Jvm.Cond := [.code Len.yN Len.yB 1 (some .int), .initialized ST, .fieldLink ST 9 ST "value" "[B", .fieldLink ST 38 ST "COMPACT_STRINGS" "Z", .fieldLink ST 15 ST "coder" "B", .code Cdr.yN Cdr.yB 1 (some .byte), .methodLink ST 335 Cdr.yN, .declares Cdr.yN, .selects ST Cdr.yN Cdr.yN, .instanceMethod Cdr.yN]
theorem tabLen_of {a : Array Value} {s : State} (h : ∀ w ∈ wordsLen, w.before a s = true) : Len.tab.before a s = true := by
  have hc : Cdr.tab.before a s = true := unparts (wk h (.code Cdr.yN Cdr.yB 1 (some .byte))) (wks h (.initialized Cdr.yN.cls :: Cdr.site))
  have q := consq hc h
  exact unparts (wk q (.code Len.yN Len.yB 1 (some .int))) (wks q (.initialized Len.yN.cls :: Len.site))
theorem movedLen {Z s : State} {a0 args : Array Value} (hZ : Z.Warmed39 s.vm) (hw : ∀ d ∈ wordsLen, d.before a0 Z = true) : ∀ d ∈ wordsLen, d.before args s = true := fun d hd => by
  have q := hw d hd
  have t : ∀ d ∈ wordsLen, d = .arrayClass .byte ∨ (d.onTables && d.keepsFace) = true := by decide +kernel
  rcases t d hd with rfl | t
  · exact RoadKit.mvA hZ q
  · exact RoadKit.mv hZ q t
/-- the bytes of the chars cs, low before high -/
def wideBytes : List Int32 → List Value
  | [] => []
  | c :: cs => .int (lo8 c) :: .int (hi8 c) :: wideBytes cs
theorem wide_lo (d : Value) : ∀ (cs : List Int32) (j : Nat), j < cs.length → (wideBytes cs).getD (2 * j) d = .int (lo8 (cs.getD j 0))
  | [], j, h => absurd h (Nat.not_lt_zero j)
  | c :: cs, 0, _ => rfl
  | c :: cs, j + 1, h => by
    have q := wide_lo d cs j (by simpa using h)
    rw [show 2 * (j + 1) = 2 * j + 1 + 1 from by omega]
    simpa [wideBytes] using q
theorem wide_hi (d : Value) : ∀ (cs : List Int32) (j : Nat), j < cs.length → (wideBytes cs).getD (2 * j + 1) d = .int (hi8 (cs.getD j 0))
  | [], j, h => absurd h (Nat.not_lt_zero j)
  | c :: cs, 0, _ => rfl
  | c :: cs, j + 1, h => by
    have q := wide_hi d cs j (by simpa using h)
    rw [show 2 * (j + 1) + 1 = 2 * j + 1 + 1 + 1 from by omega]
    simpa [wideBytes] using q
theorem low_at (d : Value) (cs : List Int32) (j : Nat) (h : j < cs.length) : (cs.map fun c => Value.int (lo8 c)).getD j d = .int (lo8 (cs.getD j 0)) := by
  simp [List.getD_eq_getElem?_getD, h]
/-- an array of N2 bytes vs codes the chars cs by the coder cd -/
def CodA (cs : List Int32) (cd N2 : Int32) (vs : List Value) : Prop := (cd = 0 ∧ N2 = Int32.ofNat cs.length ∧ vs = (cs.map fun c => Value.int (lo8 c)) ∧ ∀ c ∈ cs, ¬ 255 < c) ∨ (cd = 1 ∧ N2 = Int32.ofNat (2 * cs.length) ∧ vs = wideBytes cs ∧ ∃ c ∈ cs, 255 < c)
theorem CodA.cod {cs : List Int32} {cd N2 : Int32} {vs : List Value} {V : Cell} (h : CodA cs cd N2 vs) (hn : 2 * cs.length < 2 ^ 31) (hs : V.slots.size = N2.toNatClampNeg) (hv : RoadKit.Has V vs (.int 0)) : Cod cd cs.length (fun j => cs.getD j 0) V := by
  rcases h with ⟨rfl, rfl, rfl, h⟩ | ⟨rfl, rfl, rfl, c, hc, hw⟩
  · rw [n32 (by omega)] at hs
    exact Or.inl ⟨rfl, hs, fun j hj => ⟨by rw [hv j (by omega), low_at _ _ _ hj], by
      have e : cs.getD j 0 = cs[j] := by simp [List.getD_eq_getElem?_getD, hj]
      show ¬ 255 < cs.getD j 0
      rw [e]; exact h _ (List.getElem_mem _)⟩⟩
  · rw [n32 (by omega)] at hs
    obtain ⟨j, hj, rfl⟩ := List.getElem_of_mem hc
    exact Or.inr ⟨rfl, hs, fun j hj => ⟨by rw [hv _ (by omega), wide_lo _ _ _ hj], by rw [hv _ (by omega), wide_hi _ _ _ hj]⟩, j, hj, by
      have e : cs.getD j 0 = cs[j] := by simp [List.getD_eq_getElem?_getD, hj]
      show 255 < cs.getD j 0
      rw [e]; exact hw⟩
/-- an object of exactly java/lang/String, its two fields found: as the laws ask it -/
theorem strObj {Z U : State} {a0 : Array Value} {kI : Nat} (wi : (Jvm.Cond.instantiable ST kI).before a0 Z = true) (al : Z.vm.Alike U.vm) {x : Addr} {v0 c0 : Value} (E : RoadKit.Exa Z U.heap x ST) (V : RoadKit.Fld Z U.heap x ST "value" "[B" v0) (C : RoadKit.Fld Z U.heap x ST "coder" "B" c0) :
    ∃ (D : Cell) (fV fC : Field), Blank ST x D U ∧ Found ST "value" "[B" fV U ∧ Found ST "coder" "B" fC U ∧ D.slots[fV.slot]? = some v0 ∧ D.slots[fC.slot]? = some c0 ∧ RoadKit.slotOf Z ST "value" "[B" = fV.slot ∧ RoadKit.slotOf Z ST "coder" "B" = fC.slot := by
  obtain ⟨D, cfV, kV, iV, fV, hD, gV, stV, knV, obV, asV, slV⟩ := V
  obtain ⟨D', cfC, kC, iC, fC, hD', gC, stC, -, -, asC, slC⟩ := C
  cases hD.symm.trans hD'
  obtain ⟨D2, kD, e1, e2, e3, e4, e5⟩ := E
  cases hD.symm.trans e1
  obtain ⟨c2, k2, i1, i2, i3, -⟩ := Cond.instantiable_spec wi
  cases e2.symm.trans i1
  cases e3.symm.trans i2
  obtain ⟨kU, u1, u2⟩ := al.2.2 _ _ e3
  exact ⟨D, fV, fC, ⟨hD, ⟨knV, fun q hq => by rw [hq] at obV; cases obV⟩, by rw [al.findClass]; exact e2, kU, u1, by rw [u2]; exact i3, by rw [u2]; exact e5 i3⟩, ⟨SBG.found_only al ⟨cfV, kV, iV, gV⟩, stV⟩, ⟨SBG.found_only al ⟨cfC, kC, iC, gC⟩, stC⟩, slV, slC, by simp [RoadKit.slotOf, gV], by simp [RoadKit.slotOf, gC]⟩
theorem sta_is {Z U : State} (al : Z.vm.Alike U.vm) {C n d : String} {v : Value} (S : RoadKit.Sta Z U.heap C n d v) : StaticIs U C n d v := by
  obtain ⟨cfS, iS, kS, fS, st, cS, t1, t2, t3, t4, t5, t6, t7⟩ := S
  exact StaticIs.there (s := { Z with heap := U.heap }) ⟨cfS, iS, kS, fS, st, cS, t1, t2, t3, t4, t5, (fun q => by rw [q] at t6; cases t6), t7⟩ al rfl
/-- **length() OF SUCH A STRING** -/
theorem lenW {p : Program} {l : Launch} {e : Env} {R : Room} {s : State} {args : Array Value} {below : List Frame} {len W : Nat} {Z : State} {a0 : Array Value} {h : Heap} (hZ : Z.Warmed39 s.vm) (hw : ∀ d ∈ wordsLen, d.before a0 Z = true) {kI : Nat} (wi : (Jvm.Cond.instantiable ST kI).before a0 Z = true)
    {x t : Addr} {kb : ClassId} {cs : List Int32} {cd N2 z : Int32} {vs : List Value} (E : RoadKit.Exa Z h x ST) (V : RoadKit.Fld Z h x ST "value" "[B" (.ref t)) (C : RoadKit.Fld Z h x ST "coder" "B" (.int cd)) (K : RoadKit.Arv Z h t kb .byte N2 vs (.int 0)) (hc : CodA cs cd N2 vs) (hb : ∀ c ∈ cs, ¬ c < 0 ∧ ¬ (65535 : Int32) < c)
    (S : RoadKit.Sta Z h ST "COMPACT_STRINGS" "Z" (.int z)) (hz : ¬ z = 0) (l2 : cs.length ≤ 4000) (hfr : 2 ≤ R.frames) (hlo : W + 25 ≤ R.locals) :
    Back l R p e below s args (⟨"java/lang/String", "length", "()I"⟩ : MethodName) len W (fun P a => a = #[.ref x] ∧ P.U.heap = h ∧ P.cells + 0 ≤ R.cells ∧ P.slots + 0 ≤ R.slots)
      (fun P _ v B => ∃ L, (v = some (.int (Int32.ofNat cs.length)) ∧ L = [] ∧ B.U.heap = h) ∧ B.locs = P.locs ++ L ∧ B.cells = P.cells + 0 ∧ B.slots = P.slots + 0) := by
  obtain ⟨A, K1, K2, K3, K4, K5, K6⟩ := K
  have hcod := hc.cod (by omega) K3 K5
  intro m meth c P g ig mk a X hg hsize hdg hW hn hp'
  obtain ⟨rfl, rfl, r1, r2⟩ := hp'
  have al : Z.vm.Alike P.U.vm := hZ.alike.trans X.warmed.alike
  obtain ⟨D, fV, fC, hB, F1, F2, g1, g2, -, -⟩ := strObj wi al E V C
  have hx : Txt x t A cd cs.length (fun j => cs.getD j 0) P.U := ⟨⟨_, hB.2.2.1, D, hB.1, rfl, by cases q : D.vm <;> first | rfl | exact absurd q (hB.2.1.2 _)⟩, Has.of hB F1 g1, Has.of hB F2 g2, ⟨K1.1, State.isArrayOf_alike al K1.2.1, K1.2.2, by rcases hcod with ⟨-, q, -⟩ | ⟨-, q, -⟩ <;> omega⟩, hcod, fun j hj => by
    have e : cs.getD j 0 = cs[j] := by simp [List.getD_eq_getElem?_getD, hj]
    show ¬ cs.getD j 0 < 0 ∧ ¬ 65535 < cs.getD j 0
    rw [e]; exact hb _ (List.getElem_mem _)⟩
  obtain ⟨v, B, X', ⟨⟨hv, hh⟩, hl, hk, hs⟩, st⟩ := Len.pays x t A cd cs.length (fun j => cs.getD j 0) z (tabLen_of (movedLen hZ hw)) hfr hlo m meth c P g ig mk _ X hg hsize hdg hW hn ⟨r1, r2, rfl, hx, sta_is al S, hz⟩
  exact ⟨v, B, X', ⟨[], ⟨hv, rfl, hh⟩, hl, hk, hs⟩, st⟩
end StrChars.Road
namespace StrChars.Road
open Jvm Sem ClassFile Op Lib Jvm.Stand Jvm.Free Jvm.Free.XT
open Jvm.Lib.Cold (StaticIs)
/-- what backV says of its String, as the contracts of this text ask it: cs's low bytes, coder 0 -/
theorem codOf {cs : List Int32} {n : Nat} (hn : cs.length = n) (hb : ∀ c ∈ cs, ¬ 255 < c) : CodA cs 0 (Int32.ofNat n) ((cs.map lo8).map Value.int) := Or.inl ⟨rfl, by rw [hn], by simp [List.map_map, Function.comp_def], hb⟩
end StrChars.Road
end Jvm.Pilot.@@N@@
namespace Jvm.Pilot.@@N@@
open Jvm Jvm.ClassFile Sem Op Lib Jvm.Free Jvm.Stand Jvm.LawKit Jvm.RoadKit Bundle Jvm.Pilot.@@N@@.Jvm.D
theorem wq {Z : State} {a0 : Array Value} {d : Jvm.Cond} (hw : ∀ d ∈ tables_1, d.before a0 Z = true) (i : Nat) (h : tables_1[i]? = some d) : d.before a0 Z = true := hw _ (List.mem_of_getElem? h)
def StrA (Z : State) (h : Heap) (x : Addr) (cs : List Int32) : Prop := ∃ (t : Addr) (kb : ClassId) (cd N2 : Int32) (vs : List Value), Exa Z h x "java/lang/String" ∧ Fld Z h x "java/lang/String" "value" "[B" (.ref t) ∧ Fld Z h x "java/lang/String" "coder" "B" (.int cd) ∧ Arv Z h t kb .byte N2 vs (.int 0) ∧ StrChars.Road.CodA cs cd N2 vs ∧ (∀ c ∈ cs, ¬ c < 0 ∧ ¬ (65535 : Int32) < c)
def Cmp (Z : State) (h : Heap) : Prop := ∃ z : Int32, Sta Z h "java/lang/String" "COMPACT_STRINGS" "Z" (.int z) ∧ ¬ z = 0
theorem Cmp.ext {Z : State} {h h' : Heap} (F : Cmp Z h) (E : Ext h h') : Cmp Z h' := by obtain ⟨z, S, q⟩ := F; exact ⟨z, S.ext E, q⟩
theorem StrA.ext {Z : State} {h h' : Heap} {x : Addr} {cs : List Int32} (F : StrA Z h x cs) (E : Ext h h') : StrA Z h' x cs := by
  obtain ⟨t, kb, cd, N2, vs, a1, a2, a3, a4, a5, a6⟩ := F
  exact ⟨t, kb, cd, N2, vs, a1.ext E, a2.ext E, a3.ext E, a4.ext E, a5, a6⟩
theorem StrA.exa {Z : State} {h : Heap} {x : Addr} {cs : List Int32} (F : StrA Z h x cs) : Exa Z h x "java/lang/String" := by obtain ⟨t, kb, cd, N2, vs, a1, -⟩ := F; exact a1
theorem up16 (cs : List Int32) (h : ∀ c ∈ cs, ¬ c < 0 ∧ ¬ (255 : Int32) < c) : ∀ c ∈ cs, ¬ c < 0 ∧ ¬ (65535 : Int32) < c := fun c hc => ⟨(h c hc).1, fun q => (h c hc).2 (by rw [Int32.lt_iff_toInt_lt] at q ⊢; have e1 : (65535 : Int32).toInt = 65535 := rfl; have e2 : (255 : Int32).toInt = 255 := rfl; omega)⟩
theorem and255_nat (x : Int32) : ∃ k : Fin 256, (x &&& (255 : Int32)) = Int32.ofNat k.val := by
  have h : (x &&& 255).toBitVec.toNat < 256 := by
    simp only [Int32.toBitVec_and, BitVec.toNat_and]
    exact Nat.lt_succ_of_le Nat.and_le_right
  refine ⟨⟨_, h⟩, ?_⟩
  apply Int32.toBitVec_inj.mp
  show _ = BitVec.ofNat 32 _
  rw [BitVec.ofNat_toNat]; simp
def C8 (c : Int32) : Prop := (¬ c < 0 ∧ ¬ (255 : Int32) < c) ∧ nar .char c = c
theorem c8_and (x : Int32) : C8 ((x &&& (255 : Int32)).toUInt32.toUInt16.toUInt32.toInt32) := by
  obtain ⟨k, e⟩ := and255_nat x
  rw [e]
  have t : ∀ k : Fin 256, (¬ ((Int32.ofNat k.val).toUInt32.toUInt16.toUInt32.toInt32) < 0 ∧ ¬ (255 : Int32) < ((Int32.ofNat k.val).toUInt32.toUInt16.toUInt32.toInt32)) ∧ nar .char ((Int32.ofNat k.val).toUInt32.toUInt16.toUInt32.toInt32) = ((Int32.ofNat k.val).toUInt32.toUInt16.toUInt32.toInt32) := by decide +kernel
  exact t k
theorem c8_nil : ∀ c ∈ ([] : List Int32), ¬ c < 0 ∧ ¬ (255 : Int32) < c := fun _ q => nomatch q
theorem c8_cons {c : Int32} {L : List Int32} (q : ¬ c < 0 ∧ ¬ (255 : Int32) < c) (r : ∀ c ∈ L, ¬ c < 0 ∧ ¬ (255 : Int32) < c) : ∀ x ∈ c :: L, ¬ x < 0 ∧ ¬ (255 : Int32) < x := fun x z => (List.mem_cons.mp z).elim (fun u => u ▸ q) (r x)
theorem strOf {Z : State} {h : Heap} {x t : Addr} {kb : ClassId} {cs : List Int32} {n : Nat} {N : Int32} (hn : cs.length = n) (hN : N = Int32.ofNat n) (hp : ∀ c ∈ cs, ¬ c < 0 ∧ ¬ (255 : Int32) < c) (E : Exa Z h x "java/lang/String") (V : Fld Z h x "java/lang/String" "value" "[B" (.ref t)) (C : Fld Z h x "java/lang/String" "coder" "B" (.int 0)) (K : Arv Z h t kb .byte N ((cs.map (fun c => c.toInt8.toInt32)).map Value.int) (.int 0)) : StrA Z h x cs := by
  subst hN
  exact ⟨t, kb, 0, _, _, E, V, C, K, StrChars.Road.codOf hn (fun c hc => (hp c hc).2), up16 cs hp⟩
theorem ws_new : ∀ d ∈ StrChars.Road.words, d ∈ tables_1 := by decide +kernel
theorem backS {p : Program} {l : Launch} {e : Env} {R : Room} {s : State} {args : Array Value} {below : List Frame} {len W : Nat} {Z : State} {a0 : Array Value} {h : Heap} (hZ : Z.Warmed39 s.vm) (hw : ∀ d ∈ tables_1, d.before a0 Z = true) {x b : Addr} {kC : ClassId} {cs : List Int32} {N : Int32} {n n0 : Nat} (hx0 : n0 ≤ x) (hh0 : n0 ≤ h.size) (E : Exa Z h x "java/lang/String") (V : Fld Z h x "java/lang/String" "value" "[B" .null) (C : Fld Z h x "java/lang/String" "coder" "B" (.int 0)) (K : Arv Z h b kC .char N (cs.map Value.int) (.int 0)) (CS : Cmp Z h) (hn : cs.length = n) (hN : N = Int32.ofNat n) (l0 : 0 < n) (l2 : n ≤ 4000) (hp : ∀ c ∈ cs, ¬ c < 0 ∧ ¬ (255 : Int32) < c) (hfr : 4 ≤ R.frames) (hlo : W + 65 ≤ R.locals) :
    Back l R p e below s args (⟨"java/lang/String", "<init>", "([C)V"⟩ : MethodName) len W (fun P a => a = #[.ref x, .ref b] ∧ P.U.heap = h ∧ P.cells + 1 ≤ R.cells ∧ P.slots + n ≤ R.slots)
      (fun P _ v B => ∃ L, (v = none ∧ Fr n0 L ∧ Keep h B.U.heap [x] ∧ StrA Z B.U.heap x cs) ∧ B.locs = P.locs ++ L ∧ B.cells = P.cells + 1 ∧ B.slots = P.slots + n) := by
  obtain ⟨z, S, hz⟩ := CS
  refine Back.mono (StrChars.Road.backV hZ (fun d hd => hw d (ws_new d hd)) (kI := 4) (wq hw 14 rfl) hx0 hh0 E V C K S hz hn hN l0 l2 hp rfl hfr hlo) (fun _ _ hp => hp) (fun P a v B _ hq => ?_)
  obtain ⟨L, ⟨q1, q2, q3, q4, q5, t, kb, -, -, -, q6, q7⟩, hl⟩ := hq
  exact ⟨L, ⟨q1, q2, q3, strOf hn hN hp q4 q6 q5 q7⟩, hl⟩
abbrev pD0 : Nat := 0
abbrev rO0 : Room := { frames := 1, cells := 0, slots := 0, locals := 12 }
abbrev rO1 : Room := { frames := 2, cells := 0, slots := 0, locals := 24 }
abbrev rO2 : Room := { frames := 3, cells := 0, slots := 0, locals := 36 }
abbrev rO3 : Room := { frames := 0, cells := 0, slots := 0, locals := 0 }
abbrev rO4 : Room := { frames := 1, cells := 1, slots := 10, locals := 14 }
abbrev rO5 : Room := { frames := 2, cells := 1, slots := 10, locals := 29 }
abbrev rO6 : Room := { frames := 3, cells := 1, slots := 10, locals := 41 }
abbrev rO7 : Room := { frames := 4, cells := 1, slots := 10, locals := 56 }
abbrev rO8 : Room := { frames := 1, cells := 0, slots := 0, locals := 15 }
abbrev rO9 : Room := { frames := 1, cells := 0, slots := 0, locals := 14 }
abbrev rO10 : Room := { frames := 2, cells := 0, slots := 0, locals := 27 }
abbrev rO11 : Room := { frames := 1, cells := 1, slots := 4, locals := 18 }
abbrev rO12 : Room := { frames := 2, cells := 1, slots := 4, locals := 33 }
abbrev rO13 : Room := { frames := 3, cells := 1, slots := 4, locals := 46 }
abbrev rO14 : Room := { frames := 3, cells := 1, slots := 4, locals := 36 }
abbrev rO15 : Room := { frames := 4, cells := 1, slots := 4, locals := 58 }
abbrev rO16 : Room := { frames := 4, cells := 0, slots := 0, locals := 48 }
abbrev rO17 : Room := { frames := 5, cells := 1, slots := 2, locals := 63 }
abbrev rO18 : Room := { frames := 6, cells := 2, slots := 6, locals := 76 }
abbrev rO19 : Room := { frames := 7, cells := 2, slots := 6, locals := 89 }
abbrev rO20 : Room := { frames := 5, cells := 2, slots := 5, locals := 63 }
abbrev rO21 : Room := { frames := 6, cells := 2, slots := 5, locals := 77 }
abbrev rO22 : Room := { frames := 7, cells := 3, slots := 9, locals := 90 }
abbrev rO23 : Room := { frames := 8, cells := 3, slots := 9, locals := 103 }
abbrev rO24 : Room := { frames := 5, cells := 2, slots := 6, locals := 63 }
abbrev rO25 : Room := { frames := 6, cells := 2, slots := 6, locals := 77 }
abbrev rO26 : Room := { frames := 7, cells := 3, slots := 10, locals := 90 }
abbrev rO27 : Room := { frames := 8, cells := 3, slots := 10, locals := 103 }
abbrev rO28 : Room := { frames := 0, cells := 1, slots := 1, locals := 0 }
abbrev rO29 : Room := { frames := 2, cells := 2, slots := 5, locals := 27 }
abbrev rO30 : Room := { frames := 1, cells := 0, slots := 0, locals := 13 }
abbrev rO31 : Room := { frames := 1, cells := 1, slots := 16, locals := 12 }
abbrev rO32 : Room := { frames := 2, cells := 1, slots := 16, locals := 25 }
abbrev rO33 : Room := { frames := 1, cells := 0, slots := 0, locals := 18 }
abbrev rO34 : Room := { frames := 2, cells := 0, slots := 0, locals := 33 }
abbrev rO35 : Room := { frames := 3, cells := 0, slots := 0, locals := 47 }
abbrev rO36 : Room := { frames := 4, cells := 0, slots := 0, locals := 61 }
abbrev rO37 : Room := { frames := 1, cells := 1, slots := 16, locals := 18 }
abbrev rO38 : Room := { frames := 2, cells := 1, slots := 16, locals := 34 }
abbrev rO39 : Room := { frames := 3, cells := 1, slots := 16, locals := 49 }
abbrev rO40 : Room := { frames := 4, cells := 1, slots := 16, locals := 65 }
abbrev rO41 : Room := { frames := 5, cells := 2, slots := 20, locals := 79 }
abbrev rO42 : Room := { frames := 3, cells := 0, slots := 0, locals := 40 }
abbrev rO43 : Room := { frames := 8, cells := 10, slots := 59, locals := 103 }
abbrev rO44 : Room := { frames := 9, cells := 11, slots := 62, locals := 117 }
abbrev rO45 : Room := { frames := 9, cells := 11, slots := 63, locals := 117 }
abbrev rO46 : Room := { frames := 4, cells := 3, slots := 8, locals := 66 }
theorem R1 {p : Program} {e : Env} {below : List Frame} {T T2 : State} {g g2 : JFrame} {P : State → Outcome → Prop} (st : ∀ {t}, Steps p.tables e below (T2.setTop g2) t → Steps p.tables e below (T.setTop g) t) (r : Rch p e below T2 g2 P) : Rch p e below T g P := Rch.st (fun _ => st) r
theorem R0_ {p : Program} {e : Env} {below : List Frame} {T T2 : State} {g g2 : JFrame} {P : State → Outcome → Prop} (st : ∀ t, Steps p.tables e below (T2.setTop g2) t → Steps p.tables e below (T.setTop g) t) (r : Rch p e below T2 g2 P) : Rch p e below T g P := Rch.st st r
theorem R2 {p : Program} {e : Env} {below : List Frame} {T T2 : State} {g g2 : JFrame} {P : State → Outcome → Prop} (st : Steps p.tables e below (T.setTop g) (T2.setTop g2)) (r : Rch p e below T2 g2 P) : Rch p e below T g P := Rch.go st r
def dxs (b : ByteArray) (L : List (Nat × Instr × Nat)) : Bool := L.all fun x => decide (decode b x.1 = .ok x.2)
theorem dg {b : ByteArray} {L : List (Nat × Instr × Nat)} (h : dxs b L = true) (k : Nat) {i : Nat} {r : Instr × Nat} (hk : L[k]? = some (i, r)) : decode b i = .ok r := by
  have q := List.all_eq_true.mp h _ (List.mem_of_getElem? hk)
  simp only [decide_eq_true_eq] at q
  exact q
theorem mw {Z s : State} {a0 args : Array Value} {d : Jvm.Cond} (hZ : Z.Warmed39 s.vm) (hw : ∀ d ∈ tables_1, d.before a0 Z = true) (i : Nat) (h : tables_1[i]? = some d) (hd : (d.onTables && d.keepsFace) = true := by first | rfl | simp [Cond.onTables, Cond.keepsFace, Cond.keeps, Cond.steady]) : d.before args s = true := mvT hZ (wq hw i h) hd
theorem w0 {x W : Nat} (h : x = W) : 2 * 0 + x ≤ W := by omega
abbrev mN0 : MethodName := ⟨"java/util/AbstractCollection", "<init>", "()V"⟩
abbrev mN1 : MethodName := ⟨"java/util/AbstractList", "<init>", "()V"⟩
abbrev mN2 : MethodName := ⟨"java/util/ArrayList", "<init>", "()V"⟩
abbrev mN3 : MethodName := ⟨"java/lang/Math", "max", "(II)I"⟩
abbrev mN4 : MethodName := ⟨"java/util/ArrayList", "grow", "(I)[Ljava/lang/Object;"⟩
abbrev mN5 : MethodName := ⟨"java/util/ArrayList", "grow", "()[Ljava/lang/Object;"⟩
abbrev mN6 : MethodName := ⟨"java/util/ArrayList", "add", "(Ljava/lang/Object;[Ljava/lang/Object;I)V"⟩
abbrev mN7 : MethodName := ⟨"java/util/ArrayList", "add", "(Ljava/lang/Object;)Z"⟩
abbrev mN8 : MethodName := ⟨"java/util/ArrayList", "size", "()I"⟩
abbrev mN9 : MethodName := ⟨"java/util/ArrayList", "isEmpty", "()Z"⟩
abbrev mN10 : MethodName := ⟨"jdk/internal/util/Preconditions", "checkIndex", "(IILjava/util/function/BiFunction;)I"⟩
abbrev mN11 : MethodName := ⟨"java/util/Objects", "checkIndex", "(II)I"⟩
abbrev mN12 : MethodName := ⟨"java/util/ArrayList", "elementData", "(I)Ljava/lang/Object;"⟩
abbrev mN13 : MethodName := ⟨"java/util/ArrayList", "get", "(I)Ljava/lang/Object;"⟩
abbrev mN14 : MethodName := ⟨"java/lang/Math", "min", "(II)I"⟩
abbrev mN15 : MethodName := ⟨"java/util/Arrays", "copyOf", "([Ljava/lang/Object;ILjava/lang/Class;)[Ljava/lang/Object;"⟩
abbrev mN16 : MethodName := ⟨"java/util/Arrays", "copyOf", "([Ljava/lang/Object;I)[Ljava/lang/Object;"⟩
abbrev mN17 : MethodName := ⟨"java/util/ArrayList", "toArray", "()[Ljava/lang/Object;"⟩
abbrev mN18 : MethodName := ⟨"java/util/ArrayList", "<init>", "(I)V"⟩
abbrev mN19 : MethodName := ⟨"java/util/ArrayList", "addAll", "(Ljava/util/Collection;)Z"⟩
abbrev mN20 : MethodName := ⟨"java/util/Collection", "toArray", "()[Ljava/lang/Object;"⟩
abbrev mN21 : MethodName := ⟨"java/util/ImmutableCollections$AbstractImmutableCollection", "<init>", "()V"⟩
abbrev mN22 : MethodName := ⟨"java/util/ImmutableCollections$AbstractImmutableList", "<init>", "()V"⟩
abbrev mN23 : MethodName := ⟨"java/util/Objects", "requireNonNull", "(Ljava/lang/Object;)Ljava/lang/Object;"⟩
abbrev mN24 : MethodName := ⟨"java/util/ImmutableCollections$List12", "<init>", "(Ljava/lang/Object;Ljava/lang/Object;)V"⟩
abbrev mN25 : MethodName := ⟨"java/util/ImmutableCollections$ListN", "<init>", "([Ljava/lang/Object;Z)V"⟩
abbrev mN26 : MethodName := ⟨"java/util/List", "of", "([Ljava/lang/Object;)Ljava/util/List;"⟩
abbrev mN27 : MethodName := ⟨"java/util/ImmutableCollections", "listCopy", "(Ljava/util/Collection;)Ljava/util/List;"⟩
abbrev mN28 : MethodName := ⟨"java/util/Collection", "isEmpty", "()Z"⟩
abbrev mN29 : MethodName := ⟨"java/util/List", "copyOf", "(Ljava/util/Collection;)Ljava/util/List;"⟩
abbrev mN30 : MethodName := ⟨"java/util/ImmutableCollections", "listFromArray", "([Ljava/lang/Object;)Ljava/util/List;"⟩
abbrev mN31 : MethodName := ⟨"java/lang/StringLatin1", "canEncode", "(C)Z"⟩
abbrev mN32 : MethodName := ⟨"java/lang/StringLatin1", "toBytes", "(C)[B"⟩
abbrev mN33 : MethodName := ⟨"java/lang/String", "<init>", "([BB)V"⟩
abbrev mN34 : MethodName := ⟨"java/lang/String", "valueOf", "(C)Ljava/lang/String;"⟩
abbrev mN35 : MethodName := ⟨"java/lang/String", "coder", "()B"⟩
abbrev mN36 : MethodName := ⟨"java/lang/String", "length", "()I"⟩
abbrev mN37 : MethodName := ⟨"java/lang/AbstractStringBuilder", "<init>", "(I)V"⟩
abbrev mN38 : MethodName := ⟨"java/lang/StringBuilder", "<init>", "()V"⟩
abbrev mN39 : MethodName := ⟨"java/lang/AbstractStringBuilder", "ensureCapacityInternal", "(I)V"⟩
abbrev mN40 : MethodName := ⟨"java/lang/AbstractStringBuilder", "isLatin1", "()Z"⟩
abbrev mN41 : MethodName := ⟨"java/lang/AbstractStringBuilder", "getValue", "()[B"⟩
abbrev mN42 : MethodName := ⟨"java/lang/AbstractStringBuilder", "length", "()I"⟩
abbrev mN43 : MethodName := ⟨"java/lang/StringBuilder", "length", "()I"⟩
abbrev mN44 : MethodName := ⟨"java/lang/AbstractStringBuilder", "inflateIfNeededFor", "(Ljava/lang/String;)V"⟩
abbrev mN45 : MethodName := ⟨"java/lang/String", "getBytes", "([BIB)V"⟩
abbrev mN46 : MethodName := ⟨"java/lang/AbstractStringBuilder", "putStringAt", "(ILjava/lang/String;)V"⟩
abbrev mN47 : MethodName := ⟨"java/lang/AbstractStringBuilder", "append", "(Ljava/lang/String;)Ljava/lang/AbstractStringBuilder;"⟩
abbrev mN48 : MethodName := ⟨"java/lang/StringBuilder", "append", "(Ljava/lang/String;)Ljava/lang/StringBuilder;"⟩
abbrev mN49 : MethodName := ⟨"java/lang/AbstractStringBuilder", "append", "(C)Ljava/lang/AbstractStringBuilder;"⟩
abbrev mN50 : MethodName := ⟨"java/lang/StringBuilder", "append", "(C)Ljava/lang/StringBuilder;"⟩
abbrev mN51 : MethodName := ⟨"java/util/Arrays", "checkLength", "(II)V"⟩
abbrev mN52 : MethodName := ⟨"java/util/Arrays", "copyOfRangeByte", "([BII)[B"⟩
abbrev mN53 : MethodName := ⟨"java/util/Arrays", "copyOfRange", "([BII)[B"⟩
abbrev mN54 : MethodName := ⟨"java/lang/String", "<init>", "(Ljava/lang/AbstractStringBuilder;Ljava/lang/Void;)V"⟩
abbrev mN55 : MethodName := ⟨"java/lang/String", "<init>", "(Ljava/lang/StringBuilder;)V"⟩
abbrev mN56 : MethodName := ⟨"java/lang/StringBuilder", "toString", "()Ljava/lang/String;"⟩
abbrev mN57 : MethodName := ⟨"java/lang/Record", "<init>", "()V"⟩
abbrev mN58 : MethodName := ⟨"com/example/ampersat/ampersat/index/MetaChains$Chain", "<init>", "(Ljava/util/List;Ljava/lang/String;)V"⟩
abbrev mN59 : MethodName := ⟨"com/example/ampersat/ampersat/index/MetaChains$Chain", "types", "()Ljava/util/List;"⟩
abbrev mN60 : MethodName := ⟨"com/example/ampersat/ampersat/index/MetaChains$Chain", "text", "()Ljava/lang/String;"⟩
abbrev mN61 : MethodName := ⟨"java/util/ImmutableCollections$List12", "size", "()I"⟩
abbrev mN62 : MethodName := ⟨"java/util/ImmutableCollections$List12", "get", "(I)Ljava/lang/Object;"⟩
abbrev mN63 : MethodName := ⟨"java/util/ImmutableCollections$ListN", "size", "()I"⟩
abbrev mN64 : MethodName := ⟨"java/util/ImmutableCollections$ListN", "get", "(I)Ljava/lang/Object;"⟩
abbrev mN65 : MethodName := ⟨"com/example/ampersat/ampersat/index/MetaChains$Chain", "last", "()Ljava/lang/String;"⟩
abbrev mN66 : MethodName := ⟨"java/util/List", "size", "()I"⟩
abbrev mN67 : MethodName := ⟨"java/util/List", "get", "(I)Ljava/lang/Object;"⟩
abbrev mN68 : MethodName := ⟨"java/lang/String", "equals", "(Ljava/lang/Object;)Z"⟩
abbrev mN69 : MethodName := ⟨"com/example/ampersat/ampersat/index/MetaChains$Chain", "then", "(Ljava/lang/String;)Lcom/example/ampersat/ampersat/index/MetaChains$Chain;"⟩
abbrev mN70 : MethodName := ⟨"java/util/List", "addAll", "(Ljava/util/Collection;)Z"⟩
abbrev mN71 : MethodName := ⟨"java/util/List", "add", "(Ljava/lang/Object;)Z"⟩
abbrev mN72 : MethodName := ⟨"com/example/ampersat/ampersat/index/MetaChains$Chain", "of", "(Ljava/lang/String;Lcom/example/ampersat/ampersat/index/MetaChains$Chain;)Lcom/example/ampersat/ampersat/index/MetaChains$Chain;"⟩
abbrev mN73 : MethodName := ⟨"com/example/ampersat/ampersat/index/ChainLastPinLaw", "str", "(I)Ljava/lang/String;"⟩
abbrev mN74 : MethodName := ⟨"java/lang/String", "<init>", "([C)V"⟩
theorem pd_0 : parseMethodDescriptor "()V" = some ⟨[], none⟩ := by decide +kernel
theorem pd_1 : parseMethodDescriptor "(II)I" = some ⟨[.int, .int], some .int⟩ := by decide +kernel
theorem pd_2 : parseMethodDescriptor "(I)[Ljava/lang/Object;" = some ⟨[.int], some (.array (.object "java/lang/Object"))⟩ := by decide +kernel
theorem pd_3 : parseMethodDescriptor "()[Ljava/lang/Object;" = some ⟨[], some (.array (.object "java/lang/Object"))⟩ := by decide +kernel
theorem pd_4 : parseMethodDescriptor "(Ljava/lang/Object;[Ljava/lang/Object;I)V" = some ⟨[(.object "java/lang/Object"), (.array (.object "java/lang/Object")), .int], none⟩ := by decide +kernel
theorem pd_5 : parseMethodDescriptor "(IILjava/util/function/BiFunction;)I" = some ⟨[.int, .int, (.object "java/util/function/BiFunction")], some .int⟩ := by decide +kernel
theorem pd_6 : parseMethodDescriptor "(I)Ljava/lang/Object;" = some ⟨[.int], some (.object "java/lang/Object")⟩ := by decide +kernel
theorem pd_7 : parseMethodDescriptor "([Ljava/lang/Object;ILjava/lang/Class;)[Ljava/lang/Object;" = some ⟨[(.array (.object "java/lang/Object")), .int, (.object "java/lang/Class")], some (.array (.object "java/lang/Object"))⟩ := by decide +kernel
theorem pd_8 : parseMethodDescriptor "([Ljava/lang/Object;I)[Ljava/lang/Object;" = some ⟨[(.array (.object "java/lang/Object")), .int], some (.array (.object "java/lang/Object"))⟩ := by decide +kernel
theorem pd_9 : parseMethodDescriptor "(Ljava/lang/Object;)Ljava/lang/Object;" = some ⟨[(.object "java/lang/Object")], some (.object "java/lang/Object")⟩ := by decide +kernel
theorem pd_10 : parseMethodDescriptor "(Ljava/lang/Object;Ljava/lang/Object;)V" = some ⟨[(.object "java/lang/Object"), (.object "java/lang/Object")], none⟩ := by decide +kernel
theorem pd_11 : parseMethodDescriptor "()Z" = some ⟨[], some .boolean⟩ := by decide +kernel
theorem pd_12 : parseMethodDescriptor "([Ljava/lang/Object;)Ljava/util/List;" = some ⟨[(.array (.object "java/lang/Object"))], some (.object "java/util/List")⟩ := by decide +kernel
theorem pd_13 : parseMethodDescriptor "(Ljava/util/Collection;)Ljava/util/List;" = some ⟨[(.object "java/util/Collection")], some (.object "java/util/List")⟩ := by decide +kernel
theorem pd_14 : parseMethodDescriptor "([Ljava/lang/Object;Z)V" = some ⟨[(.array (.object "java/lang/Object")), .boolean], none⟩ := by decide +kernel
theorem pd_15 : parseMethodDescriptor "(C)Z" = some ⟨[.char], some .boolean⟩ := by decide +kernel
theorem pd_16 : parseMethodDescriptor "(C)[B" = some ⟨[.char], some (.array .byte)⟩ := by decide +kernel
theorem pd_17 : parseMethodDescriptor "([BB)V" = some ⟨[(.array .byte), .byte], none⟩ := by decide +kernel
theorem pd_18 : parseMethodDescriptor "()B" = some ⟨[], some .byte⟩ := by decide +kernel
theorem pd_19 : parseMethodDescriptor "(I)V" = some ⟨[.int], none⟩ := by decide +kernel
theorem pd_20 : parseMethodDescriptor "()I" = some ⟨[], some .int⟩ := by decide +kernel
theorem pd_21 : parseMethodDescriptor "(Ljava/lang/String;)V" = some ⟨[(.object "java/lang/String")], none⟩ := by decide +kernel
theorem pd_22 : parseMethodDescriptor "([BIB)V" = some ⟨[(.array .byte), .int, .byte], none⟩ := by decide +kernel
theorem pd_23 : parseMethodDescriptor "(ILjava/lang/String;)V" = some ⟨[.int, (.object "java/lang/String")], none⟩ := by decide +kernel
theorem pd_24 : parseMethodDescriptor "(Ljava/lang/String;)Ljava/lang/AbstractStringBuilder;" = some ⟨[(.object "java/lang/String")], some (.object "java/lang/AbstractStringBuilder")⟩ := by decide +kernel
theorem pd_25 : parseMethodDescriptor "(C)Ljava/lang/AbstractStringBuilder;" = some ⟨[.char], some (.object "java/lang/AbstractStringBuilder")⟩ := by decide +kernel
theorem pd_26 : parseMethodDescriptor "(II)V" = some ⟨[.int, .int], none⟩ := by decide +kernel
theorem pd_27 : parseMethodDescriptor "([BII)[B" = some ⟨[(.array .byte), .int, .int], some (.array .byte)⟩ := by decide +kernel
theorem pd_28 : parseMethodDescriptor "()[B" = some ⟨[], some (.array .byte)⟩ := by decide +kernel
theorem pd_29 : parseMethodDescriptor "(Ljava/lang/AbstractStringBuilder;Ljava/lang/Void;)V" = some ⟨[(.object "java/lang/AbstractStringBuilder"), (.object "java/lang/Void")], none⟩ := by decide +kernel
theorem pd_30 : parseMethodDescriptor "(Ljava/lang/StringBuilder;)V" = some ⟨[(.object "java/lang/StringBuilder")], none⟩ := by decide +kernel
theorem pd_31 : parseMethodDescriptor "(Ljava/util/Collection;)Z" = some ⟨[(.object "java/util/Collection")], some .boolean⟩ := by decide +kernel
theorem pd_32 : parseMethodDescriptor "(Ljava/lang/Object;)Z" = some ⟨[(.object "java/lang/Object")], some .boolean⟩ := by decide +kernel
theorem pd_33 : parseMethodDescriptor "(Ljava/lang/String;)Ljava/lang/StringBuilder;" = some ⟨[(.object "java/lang/String")], some (.object "java/lang/StringBuilder")⟩ := by decide +kernel
theorem pd_34 : parseMethodDescriptor "(C)Ljava/lang/StringBuilder;" = some ⟨[.char], some (.object "java/lang/StringBuilder")⟩ := by decide +kernel
theorem pd_35 : parseMethodDescriptor "()Ljava/lang/String;" = some ⟨[], some (.object "java/lang/String")⟩ := by decide +kernel
theorem pd_36 : parseMethodDescriptor "(Ljava/util/List;Ljava/lang/String;)V" = some ⟨[(.object "java/util/List"), (.object "java/lang/String")], none⟩ := by decide +kernel
theorem pd_37 : parseMethodDescriptor "()Ljava/util/List;" = some ⟨[], some (.object "java/util/List")⟩ := by decide +kernel
theorem pd_38 : parseMethodDescriptor "(C)Ljava/lang/String;" = some ⟨[.char], some (.object "java/lang/String")⟩ := by decide +kernel
theorem pd_39 : parseMethodDescriptor "([C)V" = some ⟨[(.array .char)], none⟩ := by decide +kernel
theorem pd_40 : parseMethodDescriptor "(I)Ljava/lang/String;" = some ⟨[.int], some (.object "java/lang/String")⟩ := by decide +kernel
theorem pd_41 : parseMethodDescriptor "(Ljava/lang/String;)Lcom/example/ampersat/ampersat/index/MetaChains$Chain;" = some ⟨[(.object "java/lang/String")], some (.object "com/example/ampersat/ampersat/index/MetaChains$Chain")⟩ := by decide +kernel
theorem pd_42 : parseMethodDescriptor "(Ljava/lang/String;Lcom/example/ampersat/ampersat/index/MetaChains$Chain;)Lcom/example/ampersat/ampersat/index/MetaChains$Chain;" = some ⟨[(.object "java/lang/String"), (.object "com/example/ampersat/ampersat/index/MetaChains$Chain")], some (.object "com/example/ampersat/ampersat/index/MetaChains$Chain")⟩ := by decide +kernel
theorem exa_of {Z : State} {h : Heap} {a : Addr} {C : String} (E : Exa Z h a C) : a < h.size := by obtain ⟨c, _, h1, -⟩ := E; exact (Array.getElem?_eq_some_iff.mp h1).1
def Oar (Z : State) (h : Heap) (a : Addr) (z : Int32) (vs : List Value) : Prop := Exa Z h a "[Ljava/lang/Object;" ∧ ∃ k, Arv Z h a k (.object "java/lang/Object") z vs .null ∧ Ovr Z k "java/lang/Object"
theorem Oar.ext {Z : State} {h h' : Heap} {a : Addr} {z : Int32} {vs : List Value} (A : Oar Z h a z vs) (E : Ext h h') : Oar Z h' a z vs := by obtain ⟨e, k, v, o⟩ := A; exact ⟨e.ext E, k, v.ext E, o⟩
theorem Oar.other {Z : State} {h h' : Heap} {a b : Addr} {sl : Nat} {w : Value} {z : Int32} {vs : List Value} (A : Oar Z h a z vs) (W : Wr h h' b sl w) (q : a ≠ b) : Oar Z h' a z vs := by obtain ⟨e, k, v, o⟩ := A; exact ⟨e.wr W, k, v.other W q, o⟩
theorem Oar.keep {Z : State} {h h' : Heap} {a : Addr} {ws : List Addr} {z : Int32} {vs : List Value} (A : Oar Z h a z vs) (K : Keep h h' ws) (q : a ∉ ws) : Oar Z h' a z vs := by obtain ⟨e, k, v, o⟩ := A; exact ⟨e.keep K, k, v.keep K q, o⟩
theorem Oar.sto {Z : State} {h : Heap} {a y : Addr} {z : Int32} {vs : List Value} (A : Oar Z h a z vs) (I : Ins Z h y "java/lang/Object" true) : Sto Z h a (.ref y) := by obtain ⟨e, k, ⟨c, q1, q2, -⟩, o⟩ := A; exact Sto.of q1 (q2 ▸ o) I
theorem Oar.arh {Z : State} {h : Heap} {a : Addr} {z : Int32} {vs : List Value} (A : Oar Z h a z vs) : ∃ k, Arh Z h a k (.object "java/lang/Object") z [] vs .null := by obtain ⟨e, k, v, o⟩ := A; exact ⟨k, v.arh⟩
def Al (Z : State) (h : Heap) (a ea : Addr) (z n : Int32) (vs : List Value) : Prop := Exa Z h a "java/util/ArrayList" ∧ Fld Z h a "java/util/ArrayList" "elementData" "[Ljava/lang/Object;" (.ref ea) ∧ Fld Z h a "java/util/ArrayList" "size" "I" (.int n) ∧ (∃ mc : Int32, Fld Z h a "java/util/AbstractList" "modCount" "I" (.int mc)) ∧ Oar Z h ea z vs
theorem Al.ext {Z : State} {h h' : Heap} {a ea : Addr} {z n : Int32} {vs : List Value} (A : Al Z h a ea z n vs) (E : Ext h h') : Al Z h' a ea z n vs := by obtain ⟨q1, q2, q3, ⟨mc, q4⟩, q5⟩ := A; exact ⟨q1.ext E, q2.ext E, q3.ext E, ⟨mc, q4.ext E⟩, q5.ext E⟩
theorem Al.ne {Z : State} {h : Heap} {a ea : Addr} {z n : Int32} {vs : List Value} (A : Al Z h a ea z n vs) : a ≠ ea := A.1.ne A.2.2.2.2.1 (by decide)
/-- aastore at the first free place -/
theorem stRp {p : Program} {l : Launch} {e : Env} {R : Room} {s : State} {m : MethodId} {args : Array Value} {below : List Frame} {meth : Method} {c : Code} {T : State} {locs : List Loc} {cells slots : Nat} {Z : State} {h : Heap} {a y : Addr} {z j : Int32} {vs : List Value} {n0 : Nat} (X : Stand p l e R s m args below meth c T locs cells slots) (hx : p.tables.exec = Jvm.exec) (hZ : Z.Warmed39 s.vm) (eT : T.heap = h) (A : Oar Z h a z vs) (N : Fr n0 locs) (ha : n0 ≤ a) (I : Ins Z h y "java/lang/Object" true) (hj : ¬ j < 0 ∧ j < z) (hl : j.toNatClampNeg = vs.length) {g : JFrame} (hg : g.method = m) {rest : List Value} (hs : g.stack = .ref y :: .int j :: .ref a :: rest) (hd : decode c.code g.pc = .ok (.aastore, 1)) :
    ∃ T' h' locs' sl, Stand p l e R s m args below meth c T' locs' cells slots ∧ T'.heap = h' ∧ Wr h h' a sl (.ref y) ∧ Oar Z h' a z (vs ++ [.ref y]) ∧ Fr n0 locs' ∧ ∀ target, Steps p.tables e below (T'.setTop { g with pc := g.pc + 1, stack := rest }) target → Steps p.tables e below (T.setTop g) target := by
  have S := A.sto I
  obtain ⟨E, k, V, O⟩ := A
  obtain ⟨cl, A1, q1, q2, q3, H, G⟩ := V.pad (pad_rep vs .null 1)
  obtain ⟨T', h', X', e', W, st⟩ := stR X hx hZ eT A1 (inb_of q2 hj) rfl S hg hs hd
  have V' := Arv.set A1 q1 q2 q3 H G (v := .ref y) rfl W vs.length hl (by simp)
  refine ⟨T', h', _, _, X', e', W, ⟨E.wr W, k, ?_, O⟩, Fr.snoc X' N ha, st⟩
  simpa using V'
theorem ge_antisymm {a b : Int32} (h1 : ¬ a < b) (h2 : ¬ b < a) : a = b := by
  rw [Int32.lt_iff_toInt_lt] at h1 h2; exact Int32.toInt_inj.mp (by omega)
theorem nfOf {args : Array Value} {s : State} {C : String} {u y : MethodName} (hsel : (Cond.selects C u u).before args s = true) (hu : u.cls = y.cls) : NotFace s y := fun r0 h0 => by
  obtain ⟨c2, r2, m2, q1, q2, q3, q4, kP, hkP, hkPi⟩ := Cond.selects_spec hsel
  have a := findClass_of_methodNamed q3
  have b := findClass_of_methodNamed h0
  rw [hu] at a
  have e := Option.some.inj (a.symm.trans b)
  exact ⟨kP, by rw [← e]; exact hkP, hkPi⟩
theorem selSelf {s : State} {args : Array Value} {C : String} {y : MethodName} (hs : (Cond.selects C y y).before args s = true) (hi : (Cond.instanceMethod y).before args s = true) (hp : s.PrivateAt y) (hy : y.cls ≠ "java/lang/invoke/MethodHandle" ∧ y.cls ≠ "java/lang/invoke/VarHandle") : (Cond.selects y.cls y y).before args s = true := by
  obtain ⟨c2, r2, m2, -, -, q3, -, kP, hkP, hkPi⟩ := Cond.selects_spec hs
  exact selects_self_of_private (findClass_of_methodNamed q3) hkP hkPi hp hi hy
theorem nsRoot {Z : State} {a0 : Array Value} {O K : String} {n : Nat} (w : (Cond.noSuperclass O).before a0 Z = true) (wi : (Cond.instantiable K n).before a0 Z = true) (hn : O ≠ K) : NS Z O K := by
  obtain ⟨c, k, h1, h2, h3, -, -⟩ := Cond.noSuperclass_spec w
  obtain ⟨t, kt, g1, -⟩ := Cond.instantiable_spec wi
  have ne := ids_ne h1 g1 hn
  refine ⟨c, t, h1, g1, fun fuel => ?_⟩
  cases fuel with
  | zero => rfl
  | succ f => simp [Vm.isSubclassAux, ne, h2, h3]
theorem nsNo {Z : State} {a0 : Array Value} {C S K : String} {n : Nat} (w : (Cond.superclass C S).before a0 Z = true) (wi : (Cond.instantiable K n).before a0 Z = true) (nn : NS Z C K) (hn : C ≠ K) : ∃ c t, Z.vm.findClass C = some c ∧ Z.vm.findClass K = some t ∧ Z.vm.assignable c t = false := by
  obtain ⟨c, t, h0, g0, n3⟩ := nn
  obtain ⟨p, k, kp, h1, h2, h3, h4, h5, -, h7⟩ := Cond.superclass_spec h0 w
  obtain ⟨t', kt, g1, g2, g5, g7, -⟩ := Cond.instantiable_spec wi
  cases g0.symm.trans g1
  have ne := ids_ne h0 g0 hn
  have g7' : kt.isInterface = false := by cases q : kt.isInterface <;> simp_all
  refine ⟨c, t, h0, g0, ?_⟩
  show Z.vm.assignableAux (255 + 1) c t = false
  simp [Vm.assignableAux, ne, h2, g2, h5, g5, g7', Vm.isSubclass, n3]
theorem range_self {us : List Value} {n : Nat} (h : us.length = n) : us = (List.range n).map fun i => us.getD (0 + i) .null := by
  subst h
  apply List.ext_getElem
  · simp
  · intro i h1 h2; simp [List.getD_eq_getElem?_getD, h1]
theorem clamp_le {a b : Int32} (h1 : ¬ a < 0) (h2 : ¬ b < a) : a.toNatClampNeg ≤ b.toNatClampNeg := by
  rw [Int32.lt_iff_toInt_lt] at h1 h2
  have e0 : (0 : Int32).toInt = 0 := rfl
  simp only [Int32.toNatClampNeg] at *; omega
theorem stoL {Z : State} {h : Heap} {a : Addr} {z : Int32} {vs : List Value} (A : Oar Z h a z vs) : ∀ us : List Value, (∀ v ∈ us, ∃ y, v = .ref y ∧ Ins Z h y "java/lang/Object" true) → StoL Z h a us
  | [], _ => trivial
  | v :: r, q => ⟨by obtain ⟨y, rfl, i⟩ := q v (List.mem_cons_self); exact A.sto i, stoL A r fun w hw => q w (List.mem_cons_of_mem _ hw)⟩
def Mi (Z : State) (C : String) (m : Addr) : Prop := ∃ (c : ClassId) (k : Class), Z.vm.findClass C = some c ∧ Z.vm.classes[c]? = some k ∧ k.mirror = some m
theorem gclsM {p : Program} {l : Launch} {e : Env} {R : Room} {s : State} {m : MethodId} {args : Array Value} {below : List Frame} {meth : Method} {c : Code} {T : State} {locs : List Loc} {cells slots : Nat} {Z : State} {h : Heap} {a : Addr} (X : Stand p l e R s m args below meth c T locs cells slots) (hx : p.tables.exec = Jvm.exec) (hZ : Z.Warmed39 s.vm) {a0 : Array Value} {own C : String} {index : Nat} (hown : s.vm.findClass own = some m.cls)
    (w1 : (Cond.methodLink own index ⟨"java/lang/Object", "getClass", "()Ljava/lang/Class;"⟩).before a0 Z = true) (w2 : (Cond.declares ⟨"java/lang/Object", "getClass", "()Ljava/lang/Class;"⟩).before a0 Z = true) (w3 : (Cond.noSuperclass "java/lang/Object").before a0 Z = true) (w4 : (Cond.selects C ⟨"java/lang/Object", "getClass", "()Ljava/lang/Class;"⟩ ⟨"java/lang/Object", "getClass", "()Ljava/lang/Class;"⟩).before a0 Z = true)
    (w5 : (Cond.instanceMethod ⟨"java/lang/Object", "getClass", "()Ljava/lang/Class;"⟩).before a0 Z = true) (w6 : (Cond.native ⟨"java/lang/Object", "getClass", "()Ljava/lang/Class;"⟩).before a0 Z = true) (eT : T.heap = h) (E : Exa Z h a C) {mr : Addr} (M : Mi Z C mr)
    {g : JFrame} (hg : g.method = m) (hsize : g.locals.size = c.maxLocals) {rest : List Value} (hs : g.stack = .ref a :: rest) (hd : decode c.code g.pc = .ok (.invokevirtual index, 3)) (hf : 1 ≤ R.frames) {W : Nat} (hW : 2 * g.monitorRoom + (rest.map fun v => v.category).sum ≤ W) (hl : W + (nativeFrameWords "java/lang/Object" "getClass" 1 + 11) ≤ R.locals) :
    ∃ T', Stand p l e R s m args below meth c T' locs cells slots ∧ T'.heap = h ∧ ∀ target, Steps p.tables e below (T'.setTop { g with pc := g.pc + 3, stack := .ref mr :: rest }) target → Steps p.tables e below (T.setTop g) target := by
  obtain ⟨c2, k2, m1, m2, m3⟩ := M
  have q1 : s.vm.findClass C = some c2 := by rw [hZ.alike.findClass]; exact m1
  obtain ⟨c1, k1, i1, i2, i3⟩ := isOf hZ eT E
  cases i1.symm.trans q1
  obtain ⟨k3, q, ek⟩ := hZ.alike.2.2 _ _ m2
  obtain ⟨vm2, X2, st⟩ := X.getClassOf hx hown (mvT hZ w1) (mvT hZ w2) (nf_top (args := #[]) (mvT hZ w3)) (mvT hZ w4) (mvT hZ w5) (mvT hZ w6) q1 i3 q (by rw [ek]; exact m3) hg hsize hs hd hf (by omega)
  exact ⟨_, X2, eT, st⟩
theorem ldcK {p : Program} {l : Launch} {e : Env} {R : Room} {s : State} {m : MethodId} {args : Array Value} {below : List Frame} {meth : Method} {c : Code} {T : State} {locs : List Loc} {cells slots : Nat} {Z : State} {h : Heap} {a0 : Array Value} {own C : String} {index : Nat} {mr : Addr} (X : Stand p l e R s m args below meth c T locs cells slots) (hx : p.tables.exec = Jvm.exec) (hZ : Z.Warmed39 s.vm) (hown : s.vm.findClass own = some m.cls) (w : (Cond.classLink own index C).before a0 Z = true) (eT : T.heap = h) (M : Mi Z C mr) {g : JFrame} (hg : g.method = m) (hd : decode c.code g.pc = .ok (.ldc index, 2)) :
    ∃ T', Stand p l e R s m args below meth c T' locs cells slots ∧ T'.heap = h ∧ ∀ target, Steps p.tables e below (T'.setTop { g with pc := g.pc + 2, stack := .ref mr :: g.stack }) target → Steps p.tables e below (T.setTop g) target := by
  obtain ⟨cc, kc, m1, m2, m3⟩ := M
  obtain ⟨k', q, ek⟩ := hZ.alike.2.2 _ _ m2
  have f1 : s.vm.findClass C = some cc := by rw [hZ.alike.findClass]; exact m1
  have f3 : k'.mirror = some mr := by rw [ek]; exact m3
  obtain ⟨vm', X', st⟩ := X.ldcMirror hx hown (mv hZ w) (a := mr) (by simp [Term.eval, f1, q, f3]) hg hd
  exact ⟨_, X', eT, st⟩
theorem exa_ns {Z : State} {h : Heap} {a : Addr} {C : String} (E : Exa Z h a C) : ∀ cell : Cell, h[a]? = some cell → cell.vm.isStatics = false := fun cell q => by
  obtain ⟨c, k, h1, h2, h3, h4, -⟩ := E
  cases h1.symm.trans q; exact h4
theorem staKeep1 {Z : State} {h h' : Heap} {C n d : String} {w : Value} {a : Addr} (F : Sta Z h C n d w) (K : Keep h h' [a]) (hn : ∀ cell : Cell, h[a]? = some cell → cell.vm.isStatics = false) : Sta Z h' C n d w := by
  obtain ⟨cf, i, k, f, st, cell, h1, h2, h3, h4, h5, h6, h7⟩ := F
  refine ⟨cf, i, k, f, st, cell, h1, h2, h3, h4, K.2.1 _ _ h5 (fun z => ?_), h6, h7⟩
  cases List.mem_singleton.mp z
  rw [hn _ h5] at h6; cases h6
theorem al_es {Z : State} {a0 : Array Value} (hw : ∀ d ∈ tables_1, d.before a0 Z = true) : Jvm.RoadKit.slotOf Z "java/util/ArrayList" "elementData" "[Ljava/lang/Object;" ≠ Jvm.RoadKit.slotOf Z "java/util/ArrayList" "size" "I" := slot_ne (C := "java/util/ArrayList") (Or.inl (wq hw 54 rfl)) (Or.inl (wq hw 63 rfl)) (by decide) (t := (.array (.object "java/lang/Object"))) (t' := .int) (by decide) (by decide)
theorem al_em {Z : State} {a0 : Array Value} (hw : ∀ d ∈ tables_1, d.before a0 Z = true) : Jvm.RoadKit.slotOf Z "java/util/ArrayList" "elementData" "[Ljava/lang/Object;" ≠ Jvm.RoadKit.slotOf Z "java/util/AbstractList" "modCount" "I" := slot_ne (C := "java/util/ArrayList") (Or.inl (wq hw 54 rfl)) (Or.inl (wq hw 51 rfl)) (by decide) (t := (.array (.object "java/lang/Object"))) (t' := .int) (by decide) (by decide)
theorem al_sm {Z : State} {a0 : Array Value} (hw : ∀ d ∈ tables_1, d.before a0 Z = true) : Jvm.RoadKit.slotOf Z "java/util/ArrayList" "size" "I" ≠ Jvm.RoadKit.slotOf Z "java/util/AbstractList" "modCount" "I" := slot_ne (C := "java/util/ArrayList") (Or.inl (wq hw 63 rfl)) (Or.inl (wq hw 51 rfl)) (by decide) (t := .int) (t' := .int) (by decide) (by decide)
theorem dac : dxs jdk_22_method_1_code [(0, .aload_n 0, 1), (1, .invokespecial 1, 3), (4, .return_, 1)] = true := by decide +kernel
theorem pn_acInit : plainFor (⟨"java/util/AbstractCollection", "<init>", "()V"⟩ : MethodName) = true := plainFor_of_name (by first | (simp [plainName, overriddenIn]; done) | decide +kernel)
theorem ef_acInit (m : MethodId) (x0 : Addr) : entryFrame m #[(.ref x0)] 1 = mkF m 0 #[vR x0] [] := by first | (simp [entryFrame, mkF, argsToLocals, Value.category]; done) | rfl
def Q_acInit (Z : State) (ta : Addr) (h0 : Heap) (n0 : Nat) (v : Option Value) (h : Heap) (L : List Loc) : Prop := v = none ∧ Fr n0 L ∧ h = h0
set_option maxRecDepth 65536 in
set_option maxHeartbeats 40000000 in
theorem rm_acInit (l : Launch) (Z : State) (a0 : Array Value) (hw : ∀ d ∈ tables_1, d.before a0 Z = true) (ws : List Jvm.Cond) (ta : Addr) (h0 : Heap) (n0 : Nat) (Z0 : n0 ≤ h0.size) :
    MetFree l mN0 (head1 (Jvm.Cond.code mN0 jdk_22_method_1_code 1 none :: ws) rO0) (fun a U => a = #[(.ref ta)] ∧ Z.Warmed39 U.vm ∧ U.heap = h0) (fun _ _ _ _ _ => True) (fun _ U o U' => ∃ v L, o = .returned v ∧ Q_acInit Z ta h0 n0 v U'.heap L ∧ FrameEnd U o U' L rO0.cells rO0.slots) := by
  refine MetFree.of_bodySF pn_acInit hisR ?_
  intro p e s m args below meth c s₁ Bd hml0 hP hK
  obtain ⟨rfl, hZ, hh⟩ := hP
  have hx := Bd.exec
  have hby := Bd.bytes
  have dq := @hb _ _ hby
  have hml : c.maxLocals = 1 := hml0
  have hown : s.vm.findClass "java/util/AbstractCollection" = some m.cls := findClass_of_methodNamed Bd.named
  have X0 : Stand p l e rO0 s m #[(.ref ta)] below meth c s₁ [] 0 0 := Stand.of_body Bd
  have e0 : s₁.heap = h0 := by rw [← hh, Bd.state]; rfl
  have N0 := Fr.nil n0
  show Rch p e below s₁ (entryFrame m #[(.ref ta)] 1) (fun U o => ∃ v L, o = .returned v ∧ Q_acInit Z ta h0 n0 v U.heap L ∧ FrameEnd s o U L rO0.cells rO0.slots)
  refine Rch.cast (ef_acInit m ta) ?_
  show Rch p e below s₁ (mkF m 0 #[vR ta] []) _
  refine R1 (XS.aloadN X0.here hx rfl (dq (dg dac 0 rfl)) rfl rfl) ?_
  show Rch p e below s₁ (mkF m 1 #[vR ta] [(.ref ta)]) _
  obtain ⟨T1, X1, e1, st1⟩ := initO X0 hx hZ hown (wq hw 49 rfl) (wq hw 24 rfl) (wq hw 25 rfl) e0 (g := (mkF m 1 #[vR ta] [(.ref ta)])) rfl (by rw [hml]; rfl) rfl (dq (dg dac 1 rfl)) (by decide) (W := 0) (w0 rfl) (by decide)
  refine R0_ st1 ?_
  show Rch p e below T1 (mkF m 4 #[vR ta] []) _
  exact Rch.fin (Q := Q_acInit Z ta h0 n0) X1 (v := none) (fun _ => rfl) (BodyLoose.notSynchronized Bd) (fun fs hr => X1.returnOut hx Bd.returns (dq (dg dac 2 rfl)) hr) (by rw [e1]; exact ⟨rfl, N0, rfl⟩) (by decide) (by decide)
theorem dab : dxs jdk_39_method_1_code [(0, .aload_n 0, 1), (1, .invokespecial 1, 3), (4, .aload_n 0, 1), (5, .iconst 0, 1), (6, .putfield 7, 3), (9, .return_, 1)] = true := by decide +kernel
theorem pn_abInit : plainFor (⟨"java/util/AbstractList", "<init>", "()V"⟩ : MethodName) = true := plainFor_of_name (by first | (simp [plainName, overriddenIn]; done) | decide +kernel)
def Q_abInit (Z : State) (ta : Addr) (v1 v2 v3 : Value) (h0 : Heap) (n0 : Nat) (v : Option Value) (h : Heap) (L : List Loc) : Prop := v = none ∧ Fr n0 L ∧ Keep h0 h [ta] ∧ Exa Z h ta "java/util/ArrayList" ∧ Fld Z h ta "java/util/ArrayList" "elementData" "[Ljava/lang/Object;" v1 ∧ Fld Z h ta "java/util/ArrayList" "size" "I" v2 ∧ Fld Z h ta "java/util/AbstractList" "modCount" "I" (.int 0)
set_option maxRecDepth 65536 in
set_option maxHeartbeats 40000000 in
theorem rm_abInit (l : Launch) (Z : State) (a0 : Array Value) (hw : ∀ d ∈ tables_1, d.before a0 Z = true) (ws : List Jvm.Cond) (ta : Addr) (v1 v2 v3 : Value) (h0 : Heap) (n0 : Nat) (Z0 : n0 ≤ h0.size) (hthis : n0 ≤ ta) (E1 : Exa Z h0 ta "java/util/ArrayList") (F1 : Fld Z h0 ta "java/util/ArrayList" "elementData" "[Ljava/lang/Object;" v1) (F2 : Fld Z h0 ta "java/util/ArrayList" "size" "I" v2) (F3 : Fld Z h0 ta "java/util/AbstractList" "modCount" "I" v3) :
    MetFree l mN1 (head1 (Jvm.Cond.code mN1 jdk_39_method_1_code 1 none :: ws) rO1) (fun a U => a = #[(.ref ta)] ∧ Z.Warmed39 U.vm ∧ U.heap = h0) (fun _ _ _ _ _ => True) (fun _ U o U' => ∃ v L, o = .returned v ∧ Q_abInit Z ta v1 v2 v3 h0 n0 v U'.heap L ∧ FrameEnd U o U' L rO1.cells rO1.slots) := by
  refine MetFree.of_bodySF pn_abInit hisR ?_
  intro p e s m args below meth c s₁ Bd hml0 hP hK
  obtain ⟨rfl, hZ, hh⟩ := hP
  have hx := Bd.exec
  have hby := Bd.bytes
  have dq := @hb _ _ hby
  have hml : c.maxLocals = 1 := hml0
  have hown : s.vm.findClass "java/util/AbstractList" = some m.cls := findClass_of_methodNamed Bd.named
  have X0 : Stand p l e rO1 s m #[(.ref ta)] below meth c s₁ [] 0 0 := Stand.of_body Bd
  have e0 : s₁.heap = h0 := by rw [← hh, Bd.state]; rfl
  have N0 := Fr.nil n0
  show Rch p e below s₁ (entryFrame m #[(.ref ta)] 1) (fun U o => ∃ v L, o = .returned v ∧ Q_abInit Z ta v1 v2 v3 h0 n0 v U.heap L ∧ FrameEnd s o U L rO1.cells rO1.slots)
  refine Rch.cast (ef_acInit m ta) ?_
  show Rch p e below s₁ (mkF m 0 #[vR ta] []) _
  refine R1 (XS.aloadN X0.here hx rfl (dq (dg dab 0 rfl)) rfl rfl) ?_
  show Rch p e below s₁ (mkF m 1 #[vR ta] [(.ref ta)]) _
  obtain ⟨_, _, ⟨T2, L2, k2, n2⟩, -, X2, ⟨Lc2, hQ2, l2, y2, z2⟩, st2⟩ := X0.specialBack hx (y := mN0) rfl hown (mw hZ hw 43 rfl) (mw hZ hw 44 rfl) (mw hZ hw 48 rfl) (by decide) (backOf (W := 0) (rm_acInit l Z a0 hw [] ta h0 n0 Z0) hZ (wq hw 48 rfl) (wq hw 47 rfl) (by decide) (by decide)) (g := (mkF m 1 #[vR ta] [(.ref ta)])) rfl (by rw [hml]; rfl) (Steps.refl _) (a := ta) (argsL := []) (rest := []) (lenOf pd_0 rfl) rfl (w0 rfl) (dq (dg dab 1 rfl)) (fun _ _ => ⟨rfl, e0, (by decide : 0 + 0 ≤ _), (by decide : 0 + 0 ≤ _)⟩)
  dsimp only [Pt.U, Pt.locs, Pt.cells, Pt.slots] at X2 l2 y2 z2 st2 hQ2
  subst l2 y2 z2
  obtain ⟨rfl, Nq2, e2⟩ := hQ2
  have N2 := Fr.app N0 Nq2
  refine R2 st2 ?_
  show Rch p e below T2 (mkF m 4 #[vR ta] []) _
  refine R1 (XS.aloadN X2.here hx rfl (dq (dg dab 2 rfl)) rfl rfl) ?_
  refine R1 (XS.iconst X2.here hx rfl (dq (dg dab 3 rfl)) ) ?_
  show Rch p e below T2 (mkF m 6 #[vR ta] [(.int (0 : Int32)), (.ref ta)]) _
  obtain ⟨T3, h3, X3, e3, W3, st3⟩ := putF X2 hx hZ hown (host := "") (Or.inl (wq hw 50 rfl)) Via.refl e2 F3 E1 (Or.inl (wq hw 51 rfl)) (wq hw 32 rfl) (ty := .int) (by decide) rfl rfl (g := (mkF m 6 #[vR ta] [(.int (0 : Int32)), (.ref ta)])) rfl rfl (dq (dg dab 4 rfl))
  have KK4 : Keep h0 h3 [ta] := (Keep.refl _ _).wr W3 (Or.inl (by simp))
  have N3 := Fr.snoc X3 N2 hthis
  refine R0_ st3 ?_
  show Rch p e below T3 (mkF m 9 #[vR ta] []) _
  exact Rch.fin (Q := Q_abInit Z ta v1 v2 v3 h0 n0) X3 (v := none) (fun _ => rfl) (BodyLoose.notSynchronized Bd) (fun fs hr => X3.returnOut hx Bd.returns (dq (dg dab 5 rfl)) hr) (by rw [e3]; exact ⟨rfl, N3, KK4, E1.wr W3, F1.other W3 (Or.inr (al_em hw)), F2.other W3 (Or.inr (al_sm hw)), F3.same W3⟩) (by decide) (by decide)
theorem dai : dxs jdk_38_method_2_code [(0, .aload_n 0, 1), (1, .invokespecial 1, 3), (4, .aload_n 0, 1), (5, .getstatic 39, 3), (8, .putfield 9, 3), (11, .return_, 1)] = true := by decide +kernel
theorem pn_alInit : plainFor (⟨"java/util/ArrayList", "<init>", "()V"⟩ : MethodName) = true := plainFor_of_name (by first | (simp [plainName, overriddenIn]; done) | decide +kernel)
def Q_alInit (Z : State) (ta da : Addr) (v1 : Value) (h0 : Heap) (n0 : Nat) (v : Option Value) (h : Heap) (L : List Loc) : Prop := v = none ∧ Fr n0 L ∧ Keep h0 h [ta] ∧ Al Z h ta da 0 0 []
set_option maxRecDepth 65536 in
set_option maxHeartbeats 40000000 in
theorem rm_alInit (l : Launch) (Z : State) (a0 : Array Value) (hw : ∀ d ∈ tables_1, d.before a0 Z = true) (ws : List Jvm.Cond) (ta da : Addr) (v1 : Value) (h0 : Heap) (n0 : Nat) (Z0 : n0 ≤ h0.size) (hthis : n0 ≤ ta) (E1 : Exa Z h0 ta "java/util/ArrayList") (F1 : Fld Z h0 ta "java/util/ArrayList" "elementData" "[Ljava/lang/Object;" v1) (F2 : Fld Z h0 ta "java/util/ArrayList" "size" "I" (.int 0)) (F3 : Fld Z h0 ta "java/util/AbstractList" "modCount" "I" (.int 0)) (DS : Sta Z h0 "java/util/ArrayList" "DEFAULTCAPACITY_EMPTY_ELEMENTDATA" "[Ljava/lang/Object;" (.ref da)) (DA : Oar Z h0 da 0 []) (hda : da < n0) :
    MetFree l mN2 (head1 (Jvm.Cond.code mN2 jdk_38_method_2_code 1 none :: ws) rO2) (fun a U => a = #[(.ref ta)] ∧ Z.Warmed39 U.vm ∧ U.heap = h0) (fun _ _ _ _ _ => True) (fun _ U o U' => ∃ v L, o = .returned v ∧ Q_alInit Z ta da v1 h0 n0 v U'.heap L ∧ FrameEnd U o U' L rO2.cells rO2.slots) := by
  refine MetFree.of_bodySF pn_alInit hisR ?_
  intro p e s m args below meth c s₁ Bd hml0 hP hK
  obtain ⟨rfl, hZ, hh⟩ := hP
  have hx := Bd.exec
  have hby := Bd.bytes
  have dq := @hb _ _ hby
  have hml : c.maxLocals = 1 := hml0
  have hown : s.vm.findClass "java/util/ArrayList" = some m.cls := findClass_of_methodNamed Bd.named
  have X0 : Stand p l e rO2 s m #[(.ref ta)] below meth c s₁ [] 0 0 := Stand.of_body Bd
  have e0 : s₁.heap = h0 := by rw [← hh, Bd.state]; rfl
  have N0 := Fr.nil n0
  show Rch p e below s₁ (entryFrame m #[(.ref ta)] 1) (fun U o => ∃ v L, o = .returned v ∧ Q_alInit Z ta da v1 h0 n0 v U.heap L ∧ FrameEnd s o U L rO2.cells rO2.slots)
  refine Rch.cast (ef_acInit m ta) ?_
  show Rch p e below s₁ (mkF m 0 #[vR ta] []) _
  refine R1 (XS.aloadN X0.here hx rfl (dq (dg dai 0 rfl)) rfl rfl) ?_
  show Rch p e below s₁ (mkF m 1 #[vR ta] [(.ref ta)]) _
  obtain ⟨_, _, ⟨T5, L5, k5, n5⟩, -, X5, ⟨Lc5, hQ5, l5, y5, z5⟩, st5⟩ := X0.specialBack hx (y := mN1) rfl hown (mw hZ hw 37 rfl) (mw hZ hw 38 rfl) (mw hZ hw 42 rfl) (by decide) (backOf (W := 0) (rm_abInit l Z a0 hw [] ta v1 (.int 0) (.int 0) h0 n0 Z0 hthis E1 F1 F2 F3) hZ (wq hw 42 rfl) (wq hw 41 rfl) (by decide) (by decide)) (g := (mkF m 1 #[vR ta] [(.ref ta)])) rfl (by rw [hml]; rfl) (Steps.refl _) (a := ta) (argsL := []) (rest := []) (lenOf pd_0 rfl) rfl (w0 rfl) (dq (dg dai 1 rfl)) (fun _ _ => ⟨rfl, e0, (by decide : 0 + 0 ≤ _), (by decide : 0 + 0 ≤ _)⟩)
  dsimp only [Pt.U, Pt.locs, Pt.cells, Pt.slots] at X5 l5 y5 z5 st5 hQ5
  subst l5 y5 z5
  obtain ⟨rfl, Nq5, K5, E5, FE5, FS5, FM5⟩ := hQ5
  have N5 := Fr.app N0 Nq5
  have KK6 : Keep h0 T5.heap [ta] := (Keep.refl _ _).trans K5 (allS (Or.inl (by simp)) all0)
  refine R2 st5 ?_
  show Rch p e below T5 (mkF m 4 #[vR ta] []) _
  have DS5 := staKeep1 DS K5 (exa_ns E1)
  have DA5 := DA.keep K5 (ninS (Nat.ne_of_lt (Nat.lt_of_lt_of_le hda hthis)) nin0)
  refine R1 (XS.aloadN X5.here hx rfl (dq (dg dai 2 rfl)) rfl rfl) ?_
  show Rch p e below T5 (mkF m 5 #[vR ta] [(.ref ta)]) _
  obtain ⟨T7, X7, e7, st7⟩ := getS2 X5 hx hZ hown (host := "") (Or.inl (wq hw 52 rfl)) Via.refl rfl DS5 (g := (mkF m 5 #[vR ta] [(.ref ta)])) rfl (dq (dg dai 3 rfl))
  refine R0_ st7 ?_
  show Rch p e below T7 (mkF m 8 #[vR ta] [(.ref da), (.ref ta)]) _
  obtain ⟨T8, h8, X8, e8, W8, st8⟩ := putF X7 hx hZ hown (host := "") (Or.inl (wq hw 53 rfl)) Via.refl e7 FE5 E5 (Or.inl (wq hw 54 rfl)) (wq hw 32 rfl) (ty := (.array (.object "java/lang/Object"))) (by decide) rfl rfl (g := (mkF m 8 #[vR ta] [(.ref da), (.ref ta)])) rfl rfl (dq (dg dai 4 rfl))
  have KK9 : Keep h0 h8 [ta] := KK6.wr W8 (Or.inl (by simp))
  have N8 := Fr.snoc X8 N5 hthis
  refine R0_ st8 ?_
  show Rch p e below T8 (mkF m 11 #[vR ta] []) _
  exact Rch.fin (Q := Q_alInit Z ta da v1 h0 n0) X8 (v := none) (fun _ => rfl) (BodyLoose.notSynchronized Bd) (fun fs hr => X8.returnOut hx Bd.returns (dq (dg dai 5 rfl)) hr) (by rw [e8]; exact ⟨rfl, N8, KK9, E5.wr W8, FE5.same W8, FS5.other W8 (Or.inr (Ne.symm (al_es hw))), ⟨_, FM5.other W8 (Or.inr (Ne.symm (al_em hw)))⟩, DA5.other W8 (Nat.ne_of_lt (Nat.lt_of_lt_of_le hda hthis))⟩) (by decide) (by decide)
theorem al_wrM {Z : State} {a0 : Array Value} (hw : ∀ d ∈ tables_1, d.before a0 Z = true) {h h' : Heap} {a ea : Addr} {z n : Int32} {vs : List Value} (A : Al Z h a ea z n vs) {x : Int32} (W : Wr h h' a (Jvm.RoadKit.slotOf Z "java/util/AbstractList" "modCount" "I") (.int x)) : Al Z h' a ea z n vs := by
  have ne := A.ne
  obtain ⟨q1, q2, q3, ⟨mc, q4⟩, q5⟩ := A
  exact ⟨q1.wr W, q2.other W (Or.inr (al_em hw)), q3.other W (Or.inr (al_sm hw)), ⟨x, q4.same W⟩, q5.other W (Ne.symm ne)⟩
theorem al_wrS {Z : State} {a0 : Array Value} (hw : ∀ d ∈ tables_1, d.before a0 Z = true) {h h' : Heap} {a ea : Addr} {z n : Int32} {vs : List Value} (A : Al Z h a ea z n vs) {x : Int32} (W : Wr h h' a (Jvm.RoadKit.slotOf Z "java/util/ArrayList" "size" "I") (.int x)) : Al Z h' a ea z x vs := by
  have ne := A.ne
  obtain ⟨q1, q2, q3, ⟨mc, q4⟩, q5⟩ := A
  exact ⟨q1.wr W, q2.other W (Or.inr (al_es hw)), q3.same W, ⟨mc, q4.other W (Or.inr (Ne.symm (al_sm hw)))⟩, q5.other W (Ne.symm ne)⟩
theorem al_wrE {Z : State} {a0 : Array Value} (hw : ∀ d ∈ tables_1, d.before a0 Z = true) {h h' : Heap} {a ea : Addr} {z n : Int32} {vs : List Value} (A : Al Z h a ea z n vs) {eb : Addr} {z2 : Int32} {vs2 : List Value} (O : Oar Z h eb z2 vs2) (W : Wr h h' a (Jvm.RoadKit.slotOf Z "java/util/ArrayList" "elementData" "[Ljava/lang/Object;") (.ref eb)) : Al Z h' a eb z2 n vs2 := by
  have ne : a ≠ eb := A.1.ne O.1 (by decide)
  obtain ⟨q1, q2, q3, ⟨mc, q4⟩, q5⟩ := A
  exact ⟨q1.wr W, q2.same W, q3.other W (Or.inr (Ne.symm (al_es hw))), ⟨mc, q4.other W (Or.inr (Ne.symm (al_em hw)))⟩, O.other W (Ne.symm ne)⟩
theorem al_wrA {Z : State} {h h' : Heap} {a ea : Addr} {z n : Int32} {vs vs2 : List Value} {sl : Nat} {v : Value} (A : Al Z h a ea z n vs) (W : Wr h h' ea sl v) (O : Oar Z h' ea z vs2) : Al Z h' a ea z n vs2 := by
  have ne := A.ne
  obtain ⟨q1, q2, q3, ⟨mc, q4⟩, q5⟩ := A
  exact ⟨q1.wr W, q2.other W (Or.inl ne), q3.other W (Or.inl ne), ⟨mc, q4.other W (Or.inl ne)⟩, O⟩
theorem acE (v : Value) : XT.acmp .eq v v = true := decide_eq_true rfl
theorem acN (v : Value) : XT.acmp .ne v v = false := decide_eq_false (fun q => q rfl)
theorem dmx : dxs jdk_29_method_65_code [(0, .iload_n 0, 1), (1, .iload_n 1, 1), (2, .if_icmp .lt 7, 3), (5, .iload_n 0, 1), (6, .goto 4, 3), (10, .ireturn, 1)] = true := by decide +kernel
theorem pn_mmax : plainFor (⟨"java/lang/Math", "max", "(II)I"⟩ : MethodName) = true := by first | exact plainFor_of_name (by first | (simp [plainName, overriddenIn]; done) | decide +kernel) | exact Jvm.Free.JP.mathPlain rfl (by decide +kernel)
theorem ef_mmax (m : MethodId) (x0 : Int32) (x1 : Int32) : entryFrame m #[(.int x0), (.int x1)] 2 = mkF m 0 #[vI x0, vI x1] [] := by first | (simp [entryFrame, mkF, argsToLocals, Value.category]; done) | rfl
def Q_mmax (Z : State) (x y : Int32) (h0 : Heap) (n0 : Nat) (v : Option Value) (h : Heap) (L : List Loc) : Prop := v = some (.int x) ∧ Fr n0 L ∧ h = h0
set_option maxRecDepth 65536 in
set_option maxHeartbeats 40000000 in
theorem rm_mmax (l : Launch) (Z : State) (a0 : Array Value) (hw : ∀ d ∈ tables_1, d.before a0 Z = true) (ws : List Jvm.Cond) (x y : Int32) (h0 : Heap) (n0 : Nat) (Z0 : n0 ≤ h0.size) (hxy : ¬ x < y) :
    MetFree l mN3 (head1 (Jvm.Cond.code mN3 jdk_29_method_65_code 2 (some .int) :: ws) rO3) (fun a U => a = #[(.int x), (.int y)] ∧ Z.Warmed39 U.vm ∧ U.heap = h0) (fun _ _ _ _ _ => True) (fun _ U o U' => ∃ v L, o = .returned v ∧ Q_mmax Z x y h0 n0 v U'.heap L ∧ FrameEnd U o U' L rO3.cells rO3.slots) := by
  refine MetFree.of_bodySF pn_mmax hisR ?_
  intro p e s m args below meth c s₁ Bd hml0 hP hK
  obtain ⟨rfl, hZ, hh⟩ := hP
  have hx := Bd.exec
  have hby := Bd.bytes
  have dq := @hb _ _ hby
  have hml : c.maxLocals = 2 := hml0
  have X0 : Stand p l e rO3 s m #[(.int x), (.int y)] below meth c s₁ [] 0 0 := Stand.of_body Bd
  have e0 : s₁.heap = h0 := by rw [← hh, Bd.state]; rfl
  have N0 := Fr.nil n0
  show Rch p e below s₁ (entryFrame m #[(.int x), (.int y)] 2) (fun U o => ∃ v L, o = .returned v ∧ Q_mmax Z x y h0 n0 v U.heap L ∧ FrameEnd s o U L rO3.cells rO3.slots)
  refine Rch.cast (ef_mmax m x y) ?_
  show Rch p e below s₁ (mkF m 0 #[vI x, vI y] []) _
  refine R1 (XS.iloadN X0.here hx rfl (dq (dg dmx 0 rfl)) rfl) ?_
  refine R1 (XS.iloadN X0.here hx rfl (dq (dg dmx 1 rfl)) rfl) ?_
  refine R1 (XS.icmpNo X0.here hx rfl (dq (dg dmx 2 rfl)) rfl (flt hxy).1) ?_
  refine R1 (XS.iloadN X0.here hx rfl (dq (dg dmx 3 rfl)) rfl) ?_
  show Rch p e below s₁ (mkF m 6 #[vI x, vI y] [(.int x)]) _
  refine R1 (XS.goto X0.here hx rfl (pc0 := 6) (pc' := 10) rfl (dq (dg dmx 4 rfl)) (by decide) (by decide)) ?_
  show Rch p e below s₁ (mkF m 10 #[vI x, vI y] [(.int x)]) _
  exact Rch.fin (Q := Q_mmax Z x y h0 n0) X0 (v := some (.int x)) (fun h => by rw [Bd.returns] at h; cases h) (BodyLoose.notSynchronized Bd) (fun fs hr => retI X0 hx Bd.returns (dq (dg dmx 5 rfl)) hr) (by rw [e0]; exact ⟨rfl, N0, rfl⟩) (by decide) (by decide)
theorem dgi : dxs jdk_38_method_6_code [(0, .aload_n 0, 1), (1, .getfield 9, 3), (4, .arraylength, 1), (5, .istore_n 2, 1), (6, .iload_n 2, 1), (7, .ifCond .gt 13, 3), (10, .aload_n 0, 1), (11, .getfield 9, 3), (14, .getstatic 39, 3), (17, .if_acmp .eq 28, 3), (45, .aload_n 0, 1), (46, .bipush 10, 2), (48, .iload_n 1, 1), (49, .invokestatic 79, 3), (52, .anewarray 7, 3), (55, .dup_x1, 1), (56, .putfield 9, 3), (59, .areturn, 1)] = true := by decide +kernel
theorem pn_growI : plainFor (⟨"java/util/ArrayList", "grow", "(I)[Ljava/lang/Object;"⟩ : MethodName) = true := plainFor_of_name (by first | (simp [plainName, overriddenIn]; done) | decide +kernel)
theorem ef_growI (m : MethodId) (x0 : Addr) (x1 : Int32) : entryFrame m #[(.ref x0), (.int x1)] 4 = mkF m 0 #[vR x0, vI x1, .unset, .unset] [] := by first | (simp [entryFrame, mkF, argsToLocals, Value.category]; done) | rfl
def Q_growI (Z : State) (ta da : Addr) (q : Int32) (h0 : Heap) (n0 : Nat) (v : Option Value) (h : Heap) (L : List Loc) : Prop := ∃ ea, v = some (.ref ea) ∧ Fr n0 L ∧ Keep h0 h [ta] ∧ h0.size ≤ ea ∧ Al Z h ta ea 10 0 []
set_option maxRecDepth 65536 in
set_option maxHeartbeats 40000000 in
theorem rm_growI (l : Launch) (Z : State) (a0 : Array Value) (hw : ∀ d ∈ tables_1, d.before a0 Z = true) (ws : List Jvm.Cond) (ta da : Addr) (q : Int32) (h0 : Heap) (n0 : Nat) (Z0 : n0 ≤ h0.size) (hthis : n0 ≤ ta) (A : Al Z h0 ta da 0 0 []) (DS : Sta Z h0 "java/util/ArrayList" "DEFAULTCAPACITY_EMPTY_ELEMENTDATA" "[Ljava/lang/Object;" (.ref da)) (hq : ¬ (10 : Int32) < q) :
    MetFree l mN4 (head1 (Jvm.Cond.code mN4 jdk_38_method_6_code 4 (some (.array (.object "java/lang/Object"))) :: ws) rO4) (fun a U => a = #[(.ref ta), (.int q)] ∧ Z.Warmed39 U.vm ∧ U.heap = h0) (fun _ _ _ _ _ => True) (fun _ U o U' => ∃ v L, o = .returned v ∧ Q_growI Z ta da q h0 n0 v U'.heap L ∧ FrameEnd U o U' L rO4.cells rO4.slots) := by
  refine MetFree.of_bodySF pn_growI hisR ?_
  intro p e s m args below meth c s₁ Bd hml0 hP hK
  obtain ⟨rfl, hZ, hh⟩ := hP
  have hx := Bd.exec
  have hby := Bd.bytes
  have dq := @hb _ _ hby
  have hml : c.maxLocals = 4 := hml0
  have hown : s.vm.findClass "java/util/ArrayList" = some m.cls := findClass_of_methodNamed Bd.named
  have X0 : Stand p l e rO4 s m #[(.ref ta), (.int q)] below meth c s₁ [] 0 0 := Stand.of_body Bd
  have e0 : s₁.heap = h0 := by rw [← hh, Bd.state]; rfl
  have N0 := Fr.nil n0
  show Rch p e below s₁ (entryFrame m #[(.ref ta), (.int q)] 4) (fun U o => ∃ v L, o = .returned v ∧ Q_growI Z ta da q h0 n0 v U.heap L ∧ FrameEnd s o U L rO4.cells rO4.slots)
  refine Rch.cast (ef_growI m ta q) ?_
  show Rch p e below s₁ (mkF m 0 #[vR ta, vI q, .unset, .unset] []) _
  refine R1 (XS.aloadN X0.here hx rfl (dq (dg dgi 0 rfl)) rfl rfl) ?_
  show Rch p e below s₁ (mkF m 1 #[vR ta, vI q, .unset, .unset] [(.ref ta)]) _
  obtain ⟨T10, X10, e10, st10⟩ := getF X0 hx hZ hown (host := "") (Or.inl (wq hw 53 rfl)) Via.refl e0 A.2.1 (g := (mkF m 1 #[vR ta, vI q, .unset, .unset] [(.ref ta)])) rfl rfl (dq (dg dgi 1 rfl))
  refine R0_ st10 ?_
  show Rch p e below T10 (mkF m 4 #[vR ta, vI q, .unset, .unset] [(.ref da)]) _
  obtain ⟨kk11, M11⟩ := (A.2.2.2.2).arh
  refine R0_ (alenA X10 hx hZ e10 M11 (g := (mkF m 4 #[vR ta, vI q, .unset, .unset] [(.ref da)])) rfl rfl (dq (dg dgi 2 rfl))) ?_
  show Rch p e below T10 (mkF m 5 #[vR ta, vI q, .unset, .unset] [(.int (0 : Int32))]) _
  refine R1 (XS.istoreN X10.here hx rfl (dq (dg dgi 3 rfl)) rfl (l' := #[vR ta, vI q, vI (0 : Int32), .unset]) rfl) ?_
  refine R1 (XS.iloadN X10.here hx rfl (dq (dg dgi 4 rfl)) rfl) ?_
  refine R1 (XS.ifNo X10.here hx rfl (dq (dg dgi 5 rfl)) rfl (by decide : ifCond.holds .gt (0 : Int32) = false)) ?_
  refine R1 (XS.aloadN X10.here hx rfl (dq (dg dgi 6 rfl)) rfl rfl) ?_
  show Rch p e below T10 (mkF m 11 #[vR ta, vI q, vI (0 : Int32), .unset] [(.ref ta)]) _
  obtain ⟨T12, X12, e12, st12⟩ := getF X10 hx hZ hown (host := "") (Or.inl (wq hw 53 rfl)) Via.refl e10 A.2.1 (g := (mkF m 11 #[vR ta, vI q, vI (0 : Int32), .unset] [(.ref ta)])) rfl rfl (dq (dg dgi 7 rfl))
  refine R0_ st12 ?_
  show Rch p e below T12 (mkF m 14 #[vR ta, vI q, vI (0 : Int32), .unset] [(.ref da)]) _
  obtain ⟨T13, X13, e13, st13⟩ := getS2 X12 hx hZ hown (host := "") (Or.inl (wq hw 52 rfl)) Via.refl e12 DS (g := (mkF m 14 #[vR ta, vI q, vI (0 : Int32), .unset] [(.ref da)])) rfl (dq (dg dgi 8 rfl))
  refine R0_ st13 ?_
  show Rch p e below T13 (mkF m 17 #[vR ta, vI q, vI (0 : Int32), .unset] [(.ref da), (.ref da)]) _
  refine R1 (XT.acmpYes X13.here hx rfl (pc0 := 17) (pc' := 45) rfl (dq (dg dgi 9 rfl)) rfl rfl rfl (acE _) (by decide) (by decide)) ?_
  refine R1 (XS.aloadN X13.here hx rfl (dq (dg dgi 10 rfl)) rfl rfl) ?_
  refine R1 (XS.bipush X13.here hx rfl (dq (dg dgi 11 rfl)) ) ?_
  refine R1 (XS.iloadN X13.here hx rfl (dq (dg dgi 12 rfl)) rfl) ?_
  show Rch p e below T13 (mkF m 49 #[vR ta, vI q, vI (0 : Int32), .unset] [(.int q), (.int (10 : Int32)), (.ref ta)]) _
  obtain ⟨_, _, ⟨T14, L14, k14, n14⟩, -, X14, ⟨Lc14, hQ14, l14, y14, z14⟩, st14⟩ := Jvm.LawKit.callS X13 hx (y := mN3) hown (mw hZ hw 79 rfl) (mw hZ hw 80 rfl) (mw hZ hw 81 rfl) (mw hZ hw 82 rfl) (by decide) (backOf (W := 1) (rm_mmax l Z a0 hw [] (10 : Int32) q h0 n0 Z0 hq) hZ (wq hw 82 rfl) (wq hw 81 rfl) (by decide) (by decide)) (g := (mkF m 49 #[vR ta, vI q, vI (0 : Int32), .unset] [(.int q), (.int (10 : Int32)), (.ref ta)])) rfl (by rw [hml]; rfl) (argsL := [(.int (10 : Int32)), (.int q)]) (rest := [(.ref ta)]) (lenOf pd_1 rfl) rfl (w0 rfl) (dq (dg dgi 13 rfl)) (fun _ _ => ⟨rfl, e13, (by decide : 0 + 0 ≤ _), (by decide : 0 + 0 ≤ _)⟩)
  dsimp only [Pt.U, Pt.locs, Pt.cells, Pt.slots] at X14 l14 y14 z14 st14 hQ14
  subst l14 y14 z14
  obtain ⟨rfl, Nq14, e14⟩ := hQ14
  have N14 := Fr.app N0 Nq14
  refine R0_ st14 ?_
  show Rch p e below T14 (mkF m 52 #[vR ta, vI q, vI (0 : Int32), .unset] [(.int (10 : Int32)), (.ref ta)]) _
  obtain ⟨T15, h15, c15, X15, e15, E15, A15, Q15, O15, st15⟩ := newRE X14 hx hZ hown (wq hw 83 rfl) (wq hw 84 rfl) e14 (g := (mkF m 52 #[vR ta, vI q, vI (0 : Int32), .unset] [(.int (10 : Int32)), (.ref ta)])) rfl (dq (dg dgi 14 rfl)) rfl (by decide : ¬ ((10 : Int32) < 0)) (cap := 10) (by decide) (by decide) (by decide) (by decide) (ad := "[Ljava/lang/Object;") (by decide)
  obtain ⟨a15, g15⟩ : ∃ z, z = h0.size := ⟨_, rfl⟩
  rw [← g15] at A15 Q15 st15
  have Ex16 : Ext h0 h15 := E15
  have KK17 : Keep h0 h15 [ta] := (Keep.refl _ _).ext E15
  have le18 : h0.size ≤ a15 := Nat.le_of_eq g15.symm
  refine R0_ st15 ?_
  show Rch p e below T15 (mkF m 55 #[vR ta, vI q, vI (0 : Int32), .unset] [(.ref a15), (.ref ta)]) _
  have OA15 : Oar Z h15 a15 10 [] := ⟨Q15, c15, Arv.new A15 (by decide : ¬ ((10 : Int32) < 0)), O15⟩
  refine R1 (XT.dupX1 X15.here hx rfl (dq (dg dgi 15 rfl)) rfl rfl rfl) ?_
  show Rch p e below T15 (mkF m 56 #[vR ta, vI q, vI (0 : Int32), .unset] [(.ref a15), (.ref ta), (.ref a15)]) _
  have A2 := A.ext Ex16
  obtain ⟨T19, h19, X19, e19, W19, st19⟩ := putF X15 hx hZ hown (host := "") (Or.inl (wq hw 53 rfl)) Via.refl e15 A2.2.1 A2.1 (Or.inl (wq hw 54 rfl)) (wq hw 32 rfl) (ty := (.array (.object "java/lang/Object"))) (by decide) rfl rfl (g := (mkF m 56 #[vR ta, vI q, vI (0 : Int32), .unset] [(.ref a15), (.ref ta), (.ref a15)])) rfl rfl (dq (dg dgi 16 rfl))
  have KK20 : Keep h0 h19 [ta] := KK17.wr W19 (Or.inl (by simp))
  have N19 := Fr.snoc X19 N14 hthis
  refine R0_ st19 ?_
  show Rch p e below T19 (mkF m 59 #[vR ta, vI q, vI (0 : Int32), .unset] [(.ref a15)]) _
  exact Rch.fin (Q := Q_growI Z ta da q h0 n0) X19 (v := some (.ref a15)) (fun h => by rw [Bd.returns] at h; cases h) (BodyLoose.notSynchronized Bd) (fun fs hr => retR X19 hx Bd.returns rfl rfl (dq (dg dgi 17 rfl)) hr) (by rw [e19]; exact ⟨a15, rfl, N19, KK20, le18, al_wrE hw A2 OA15 W19⟩) (by decide) (by decide)
theorem dgo : dxs jdk_38_method_7_code [(0, .aload_n 0, 1), (1, .aload_n 0, 1), (2, .getfield 48, 3), (5, .iconst 1, 1), (6, .iadd, 1), (7, .invokevirtual 69, 3), (10, .areturn, 1)] = true := by decide +kernel
theorem pn_grow0 : plainFor (⟨"java/util/ArrayList", "grow", "()[Ljava/lang/Object;"⟩ : MethodName) = true := plainFor_of_name (by first | (simp [plainName, overriddenIn]; done) | decide +kernel)
def Q_grow0 (Z : State) (ta da : Addr) (h0 : Heap) (n0 : Nat) (v : Option Value) (h : Heap) (L : List Loc) : Prop := ∃ ea, v = some (.ref ea) ∧ Fr n0 L ∧ Keep h0 h [ta] ∧ h0.size ≤ ea ∧ Al Z h ta ea 10 0 []
set_option maxRecDepth 65536 in
set_option maxHeartbeats 40000000 in
theorem rm_grow0 (l : Launch) (Z : State) (a0 : Array Value) (hw : ∀ d ∈ tables_1, d.before a0 Z = true) (ws : List Jvm.Cond) (ta da : Addr) (h0 : Heap) (n0 : Nat) (Z0 : n0 ≤ h0.size) (hthis : n0 ≤ ta) (A : Al Z h0 ta da 0 0 []) (DS : Sta Z h0 "java/util/ArrayList" "DEFAULTCAPACITY_EMPTY_ELEMENTDATA" "[Ljava/lang/Object;" (.ref da)) :
    MetFree l mN5 (head1 (Jvm.Cond.code mN5 jdk_38_method_7_code 1 (some (.array (.object "java/lang/Object"))) :: ws) rO5) (fun a U => a = #[(.ref ta)] ∧ Z.Warmed39 U.vm ∧ U.heap = h0) (fun _ _ _ _ _ => True) (fun _ U o U' => ∃ v L, o = .returned v ∧ Q_grow0 Z ta da h0 n0 v U'.heap L ∧ FrameEnd U o U' L rO5.cells rO5.slots) := by
  refine MetFree.of_bodySF pn_grow0 hisR ?_
  intro p e s m args below meth c s₁ Bd hml0 hP hK
  obtain ⟨rfl, hZ, hh⟩ := hP
  have hx := Bd.exec
  have hby := Bd.bytes
  have dq := @hb _ _ hby
  have hml : c.maxLocals = 1 := hml0
  have hown : s.vm.findClass "java/util/ArrayList" = some m.cls := findClass_of_methodNamed Bd.named
  have X0 : Stand p l e rO5 s m #[(.ref ta)] below meth c s₁ [] 0 0 := Stand.of_body Bd
  have e0 : s₁.heap = h0 := by rw [← hh, Bd.state]; rfl
  have N0 := Fr.nil n0
  show Rch p e below s₁ (entryFrame m #[(.ref ta)] 1) (fun U o => ∃ v L, o = .returned v ∧ Q_grow0 Z ta da h0 n0 v U.heap L ∧ FrameEnd s o U L rO5.cells rO5.slots)
  refine Rch.cast (ef_acInit m ta) ?_
  show Rch p e below s₁ (mkF m 0 #[vR ta] []) _
  refine R1 (XS.aloadN X0.here hx rfl (dq (dg dgo 0 rfl)) rfl rfl) ?_
  refine R1 (XS.aloadN X0.here hx rfl (dq (dg dgo 1 rfl)) rfl rfl) ?_
  show Rch p e below s₁ (mkF m 2 #[vR ta] [(.ref ta), (.ref ta)]) _
  obtain ⟨T21, X21, e21, st21⟩ := getF X0 hx hZ hown (host := "") (Or.inl (wq hw 62 rfl)) Via.refl e0 A.2.2.1 (g := (mkF m 2 #[vR ta] [(.ref ta), (.ref ta)])) rfl rfl (dq (dg dgo 2 rfl))
  refine R0_ st21 ?_
  show Rch p e below T21 (mkF m 5 #[vR ta] [(.int (0 : Int32)), (.ref ta)]) _
  refine R1 (XS.iconst X21.here hx rfl (dq (dg dgo 3 rfl)) ) ?_
  refine R1 (XS.iadd X21.here hx rfl (dq (dg dgo 4 rfl)) rfl) ?_
  show Rch p e below T21 (mkF m 7 #[vR ta] [(.int ((0 : Int32) + (1 : Int32))), (.ref ta)]) _
  obtain ⟨ce22, q22, q22'⟩ := ((Ins.self A.1)).cell
  obtain ⟨_, _, ⟨T22, L22, k22, n22⟩, -, X22, ⟨Lc22, hQ22, l22, y22, z22⟩, st22⟩ := X21.privateBack hx (y := mN4) hown (mw hZ hw 74 rfl) (mw hZ hw 75 rfl) (mw hZ hw 77 rfl) (Cond.privateMethod_at (mvP hZ (wq hw 76 rfl) (args := #[]))) (mw hZ hw 78 rfl) (by decide) (backOf (W := 0) (rm_growI l Z a0 hw [] ta da ((0 : Int32) + (1 : Int32)) h0 n0 Z0 hthis A DS (by decide)) hZ (wq hw 78 rfl) (wq hw 33 rfl) (by decide) (by decide)) (g := (mkF m 7 #[vR ta] [(.int ((0 : Int32) + (1 : Int32))), (.ref ta)])) rfl (by rw [hml]; rfl) (Steps.refl _) (a := ta) (by rw [e21]; exact q22) q22' (argsL := [(.int ((0 : Int32) + (1 : Int32)))]) (rest := []) (lenOf pd_2 rfl) rfl (w0 rfl) (dq (dg dgo 5 rfl)) (fun _ _ => ⟨rfl, e21, (by decide : 0 + 1 ≤ _), (by decide : 0 + 10 ≤ _)⟩)
  dsimp only [Pt.U, Pt.locs, Pt.cells, Pt.slots] at X22 l22 y22 z22 st22 hQ22
  subst l22 y22 z22
  obtain ⟨ea22, rfl, Nq22, K22, le22_, A22⟩ := hQ22
  have N22 := Fr.app N0 Nq22
  have KK23 : Keep h0 T22.heap [ta] := (Keep.refl _ _).trans K22 (allS (Or.inl (by simp)) all0)
  refine R2 st22 ?_
  show Rch p e below T22 (mkF m 10 #[vR ta] [(.ref ea22)]) _
  exact Rch.fin (Q := Q_grow0 Z ta da h0 n0) X22 (v := some (.ref ea22)) (fun h => by rw [Bd.returns] at h; cases h) (BodyLoose.notSynchronized Bd) (fun fs hr => retR X22 hx Bd.returns rfl rfl (dq (dg dgo 6 rfl)) hr) ⟨ea22, rfl, N22, KK23, le22_, A22⟩ (by decide) (by decide)
theorem dah : dxs jdk_38_method_24_code [(0, .iload_n 3, 1), (1, .aload_n 2, 1), (2, .arraylength, 1), (3, .if_icmp .ne 8, 3), (6, .aload_n 0, 1), (7, .invokevirtual 129, 3), (10, .astore_n 2, 1), (11, .aload_n 2, 1), (12, .iload_n 3, 1), (13, .aload_n 1, 1), (14, .aastore, 1), (15, .aload_n 0, 1), (16, .iload_n 3, 1), (17, .iconst 1, 1), (18, .iadd, 1), (19, .putfield 48, 3), (22, .return_, 1)] = true := by decide +kernel
theorem pn_helpG : plainFor (⟨"java/util/ArrayList", "add", "(Ljava/lang/Object;[Ljava/lang/Object;I)V"⟩ : MethodName) = true := plainFor_of_name (by first | (simp [plainName, overriddenIn]; done) | decide +kernel)
theorem ef_helpG (m : MethodId) (x0 : Addr) (x1 : Addr) (x2 : Addr) (x3 : Int32) : entryFrame m #[(.ref x0), (.ref x1), (.ref x2), (.int x3)] 4 = mkF m 0 #[vR x0, vR x1, vR x2, vI x3] [] := by first | (simp [entryFrame, mkF, argsToLocals, Value.category]; done) | rfl
def Q_helpG (Z : State) (ta x da : Addr) (h0 : Heap) (n0 : Nat) (v : Option Value) (h : Heap) (L : List Loc) : Prop := ∃ ea, v = none ∧ Fr n0 L ∧ Keep h0 h [ta] ∧ h0.size ≤ ea ∧ Al Z h ta ea 10 1 [.ref x]
set_option maxRecDepth 65536 in
set_option maxHeartbeats 40000000 in
theorem rm_helpG (l : Launch) (Z : State) (a0 : Array Value) (hw : ∀ d ∈ tables_1, d.before a0 Z = true) (ws : List Jvm.Cond) (ta x da : Addr) (h0 : Heap) (n0 : Nat) (Z0 : n0 ≤ h0.size) (hthis : n0 ≤ ta) (A : Al Z h0 ta da 0 0 []) (DS : Sta Z h0 "java/util/ArrayList" "DEFAULTCAPACITY_EMPTY_ELEMENTDATA" "[Ljava/lang/Object;" (.ref da)) (EX : Exa Z h0 x "java/lang/String") :
    MetFree l mN6 (head1 (Jvm.Cond.code mN6 jdk_38_method_24_code 4 none :: ws) rO6) (fun a U => a = #[(.ref ta), (.ref x), (.ref da), (.int (0 : Int32))] ∧ Z.Warmed39 U.vm ∧ U.heap = h0) (fun _ _ _ _ _ => True) (fun _ U o U' => ∃ v L, o = .returned v ∧ Q_helpG Z ta x da h0 n0 v U'.heap L ∧ FrameEnd U o U' L rO6.cells rO6.slots) := by
  refine MetFree.of_bodySF pn_helpG hisR ?_
  intro p e s m args below meth c s₁ Bd hml0 hP hK
  obtain ⟨rfl, hZ, hh⟩ := hP
  have hx := Bd.exec
  have hby := Bd.bytes
  have dq := @hb _ _ hby
  have hml : c.maxLocals = 4 := hml0
  have hown : s.vm.findClass "java/util/ArrayList" = some m.cls := findClass_of_methodNamed Bd.named
  have X0 : Stand p l e rO6 s m #[(.ref ta), (.ref x), (.ref da), (.int (0 : Int32))] below meth c s₁ [] 0 0 := Stand.of_body Bd
  have e0 : s₁.heap = h0 := by rw [← hh, Bd.state]; rfl
  have N0 := Fr.nil n0
  show Rch p e below s₁ (entryFrame m #[(.ref ta), (.ref x), (.ref da), (.int (0 : Int32))] 4) (fun U o => ∃ v L, o = .returned v ∧ Q_helpG Z ta x da h0 n0 v U.heap L ∧ FrameEnd s o U L rO6.cells rO6.slots)
  refine Rch.cast (ef_helpG m ta x da (0 : Int32)) ?_
  show Rch p e below s₁ (mkF m 0 #[vR ta, vR x, vR da, vI (0 : Int32)] []) _
  refine R1 (XS.iloadN X0.here hx rfl (dq (dg dah 0 rfl)) rfl) ?_
  refine R1 (XS.aloadN X0.here hx rfl (dq (dg dah 1 rfl)) rfl rfl) ?_
  show Rch p e below s₁ (mkF m 2 #[vR ta, vR x, vR da, vI (0 : Int32)] [(.ref da), (.int (0 : Int32))]) _
  obtain ⟨kk24, M24⟩ := (A.2.2.2.2).arh
  refine R0_ (alenA X0 hx hZ e0 M24 (g := (mkF m 2 #[vR ta, vR x, vR da, vI (0 : Int32)] [(.ref da), (.int (0 : Int32))])) rfl rfl (dq (dg dah 2 rfl))) ?_
  show Rch p e below s₁ (mkF m 3 #[vR ta, vR x, vR da, vI (0 : Int32)] [(.int (0 : Int32)), (.int (0 : Int32))]) _
  refine R1 (XS.icmpNo X0.here hx rfl (dq (dg dah 3 rfl)) rfl (by decide : if_icmp.holds .ne (0 : Int32) (0 : Int32) = false)) ?_
  refine R1 (XS.aloadN X0.here hx rfl (dq (dg dah 4 rfl)) rfl rfl) ?_
  show Rch p e below s₁ (mkF m 7 #[vR ta, vR x, vR da, vI (0 : Int32)] [(.ref ta)]) _
  obtain ⟨ce25, q25, q25'⟩ := ((Ins.self A.1)).cell
  obtain ⟨_, _, ⟨T25, L25, k25, n25⟩, -, X25, ⟨Lc25, hQ25, l25, y25, z25⟩, st25⟩ := X0.privateBack hx (y := mN5) hown (mw hZ hw 69 rfl) (mw hZ hw 70 rfl) (mw hZ hw 72 rfl) (Cond.privateMethod_at (mvP hZ (wq hw 71 rfl) (args := #[]))) (mw hZ hw 73 rfl) (by decide) (backOf (W := 0) (rm_grow0 l Z a0 hw [] ta da h0 n0 Z0 hthis A DS) hZ (wq hw 73 rfl) (wq hw 33 rfl) (by decide) (by decide)) (g := (mkF m 7 #[vR ta, vR x, vR da, vI (0 : Int32)] [(.ref ta)])) rfl (by rw [hml]; rfl) (Steps.refl _) (a := ta) (by rw [e0]; exact q25) q25' (argsL := []) (rest := []) (lenOf pd_3 rfl) rfl (w0 rfl) (dq (dg dah 5 rfl)) (fun _ _ => ⟨rfl, e0, (by decide : 0 + 1 ≤ _), (by decide : 0 + 10 ≤ _)⟩)
  dsimp only [Pt.U, Pt.locs, Pt.cells, Pt.slots] at X25 l25 y25 z25 st25 hQ25
  subst l25 y25 z25
  obtain ⟨ea25, rfl, Nq25, K25, le25_, A25⟩ := hQ25
  have N25 := Fr.app N0 Nq25
  have KK26 : Keep h0 T25.heap [ta] := (Keep.refl _ _).trans K25 (allS (Or.inl (by simp)) all0)
  refine R2 st25 ?_
  show Rch p e below T25 (mkF m 10 #[vR ta, vR x, vR da, vI (0 : Int32)] [(.ref ea25)]) _
  refine R1 (XS.astoreN X25.here hx rfl (dq (dg dah 6 rfl)) rfl rfl (l' := #[vR ta, vR x, vR ea25, vI (0 : Int32)]) rfl) ?_
  refine R1 (XS.aloadN X25.here hx rfl (dq (dg dah 7 rfl)) rfl rfl) ?_
  refine R1 (XS.iloadN X25.here hx rfl (dq (dg dah 8 rfl)) rfl) ?_
  refine R1 (XS.aloadN X25.here hx rfl (dq (dg dah 9 rfl)) rfl rfl) ?_
  show Rch p e below T25 (mkF m 14 #[vR ta, vR x, vR ea25, vI (0 : Int32)] [(.ref x), (.int (0 : Int32)), (.ref ea25)]) _
  obtain ⟨T27, h27, L27, sl27, X27, e27, W27, O27, N27, st27⟩ := stRp X25 hx hZ rfl A25.2.2.2.2 N25 (Nat.le_trans Z0 le25_) (Ins.of_exa (EX.keep K25) (wq hw 85 rfl)) ⟨by decide, by decide⟩ rfl (g := (mkF m 14 #[vR ta, vR x, vR ea25, vI (0 : Int32)] [(.ref x), (.int (0 : Int32)), (.ref ea25)])) rfl rfl (dq (dg dah 10 rfl))
  have KK28 : Keep h0 h27 [ta] := KK26.wr W27 (Or.inr le25_)
  refine R0_ st27 ?_
  show Rch p e below T27 (mkF m 15 #[vR ta, vR x, vR ea25, vI (0 : Int32)] []) _
  have A_1 := al_wrA A25 W27 O27
  refine R1 (XS.aloadN X27.here hx rfl (dq (dg dah 11 rfl)) rfl rfl) ?_
  refine R1 (XS.iloadN X27.here hx rfl (dq (dg dah 12 rfl)) rfl) ?_
  refine R1 (XS.iconst X27.here hx rfl (dq (dg dah 13 rfl)) ) ?_
  refine R1 (XS.iadd X27.here hx rfl (dq (dg dah 14 rfl)) rfl) ?_
  show Rch p e below T27 (mkF m 19 #[vR ta, vR x, vR ea25, vI (0 : Int32)] [(.int ((0 : Int32) + (1 : Int32))), (.ref ta)]) _
  obtain ⟨T29, h29, X29, e29, W29, st29⟩ := putF X27 hx hZ hown (host := "") (Or.inl (wq hw 62 rfl)) Via.refl e27 A_1.2.2.1 A_1.1 (Or.inl (wq hw 63 rfl)) (wq hw 32 rfl) (ty := .int) (by decide) rfl rfl (g := (mkF m 19 #[vR ta, vR x, vR ea25, vI (0 : Int32)] [(.int ((0 : Int32) + (1 : Int32))), (.ref ta)])) rfl rfl (dq (dg dah 15 rfl))
  have KK30 : Keep h0 h29 [ta] := KK28.wr W29 (Or.inl (by simp))
  have N29 := Fr.snoc X29 N27 hthis
  refine R0_ st29 ?_
  show Rch p e below T29 (mkF m 22 #[vR ta, vR x, vR ea25, vI (0 : Int32)] []) _
  have A_2 := al_wrS hw A_1 W29
  exact Rch.fin (Q := Q_helpG Z ta x da h0 n0) X29 (v := none) (fun _ => rfl) (BodyLoose.notSynchronized Bd) (fun fs hr => X29.returnOut hx Bd.returns (dq (dg dah 16 rfl)) hr) (by rw [e29]; exact ⟨ea25, rfl, N29, KK30, le25_, A_2⟩) (by decide) (by decide)
def Q_helpR (Z : State) (ta x ea : Addr) (z n : Int32) (vs : List Value) (h0 : Heap) (n0 : Nat) (v : Option Value) (h : Heap) (L : List Loc) : Prop := v = none ∧ Fr n0 L ∧ Keep h0 h [ta, ea] ∧ Al Z h ta ea z (n + 1) (vs ++ [.ref x])
set_option maxRecDepth 65536 in
set_option maxHeartbeats 40000000 in
theorem rm_helpR (l : Launch) (Z : State) (a0 : Array Value) (hw : ∀ d ∈ tables_1, d.before a0 Z = true) (ws : List Jvm.Cond) (ta x ea : Addr) (z n : Int32) (vs : List Value) (h0 : Heap) (n0 : Nat) (Z0 : n0 ≤ h0.size) (hthis : n0 ≤ ta) (hea : n0 ≤ ea) (A : Al Z h0 ta ea z n vs) (EX : Exa Z h0 x "java/lang/String") (hne : ¬ n = z) (hj : ¬ n < 0 ∧ n < z) (hl : n.toNatClampNeg = vs.length) :
    MetFree l mN6 (head1 (Jvm.Cond.code mN6 jdk_38_method_24_code 4 none :: ws) rO3) (fun a U => a = #[(.ref ta), (.ref x), (.ref ea), (.int n)] ∧ Z.Warmed39 U.vm ∧ U.heap = h0) (fun _ _ _ _ _ => True) (fun _ U o U' => ∃ v L, o = .returned v ∧ Q_helpR Z ta x ea z n vs h0 n0 v U'.heap L ∧ FrameEnd U o U' L rO3.cells rO3.slots) := by
  refine MetFree.of_bodySF pn_helpG hisR ?_
  intro p e s m args below meth c s₁ Bd hml0 hP hK
  obtain ⟨rfl, hZ, hh⟩ := hP
  have hx := Bd.exec
  have hby := Bd.bytes
  have dq := @hb _ _ hby
  have hml : c.maxLocals = 4 := hml0
  have hown : s.vm.findClass "java/util/ArrayList" = some m.cls := findClass_of_methodNamed Bd.named
  have X0 : Stand p l e rO3 s m #[(.ref ta), (.ref x), (.ref ea), (.int n)] below meth c s₁ [] 0 0 := Stand.of_body Bd
  have e0 : s₁.heap = h0 := by rw [← hh, Bd.state]; rfl
  have N0 := Fr.nil n0
  show Rch p e below s₁ (entryFrame m #[(.ref ta), (.ref x), (.ref ea), (.int n)] 4) (fun U o => ∃ v L, o = .returned v ∧ Q_helpR Z ta x ea z n vs h0 n0 v U.heap L ∧ FrameEnd s o U L rO3.cells rO3.slots)
  refine Rch.cast (ef_helpG m ta x ea n) ?_
  show Rch p e below s₁ (mkF m 0 #[vR ta, vR x, vR ea, vI n] []) _
  refine R1 (XS.iloadN X0.here hx rfl (dq (dg dah 0 rfl)) rfl) ?_
  refine R1 (XS.aloadN X0.here hx rfl (dq (dg dah 1 rfl)) rfl rfl) ?_
  show Rch p e below s₁ (mkF m 2 #[vR ta, vR x, vR ea, vI n] [(.ref ea), (.int n)]) _
  obtain ⟨kk31, M31⟩ := (A.2.2.2.2).arh
  refine R0_ (alenA X0 hx hZ e0 M31 (g := (mkF m 2 #[vR ta, vR x, vR ea, vI n] [(.ref ea), (.int n)])) rfl rfl (dq (dg dah 2 rfl))) ?_
  show Rch p e below s₁ (mkF m 3 #[vR ta, vR x, vR ea, vI n] [(.int z), (.int n)]) _
  refine R1 (XS.icmpYes X0.here hx rfl (pc0 := 3) (pc' := 11) rfl (dq (dg dah 3 rfl)) rfl (feq hne).2 (by decide) (by decide)) ?_
  refine R1 (XS.aloadN X0.here hx rfl (dq (dg dah 7 rfl)) rfl rfl) ?_
  refine R1 (XS.iloadN X0.here hx rfl (dq (dg dah 8 rfl)) rfl) ?_
  refine R1 (XS.aloadN X0.here hx rfl (dq (dg dah 9 rfl)) rfl rfl) ?_
  show Rch p e below s₁ (mkF m 14 #[vR ta, vR x, vR ea, vI n] [(.ref x), (.int n), (.ref ea)]) _
  obtain ⟨T32, h32, L32, sl32, X32, e32, W32, O32, N32, st32⟩ := stRp X0 hx hZ e0 A.2.2.2.2 N0 hea (Ins.of_exa EX (wq hw 85 rfl)) hj hl (g := (mkF m 14 #[vR ta, vR x, vR ea, vI n] [(.ref x), (.int n), (.ref ea)])) rfl rfl (dq (dg dah 10 rfl))
  have KK33 : Keep h0 h32 [ta, ea] := (Keep.refl _ _).wr W32 (Or.inl (by simp))
  refine R0_ st32 ?_
  show Rch p e below T32 (mkF m 15 #[vR ta, vR x, vR ea, vI n] []) _
  have A_1 := al_wrA A W32 O32
  refine R1 (XS.aloadN X32.here hx rfl (dq (dg dah 11 rfl)) rfl rfl) ?_
  refine R1 (XS.iloadN X32.here hx rfl (dq (dg dah 12 rfl)) rfl) ?_
  refine R1 (XS.iconst X32.here hx rfl (dq (dg dah 13 rfl)) ) ?_
  refine R1 (XS.iadd X32.here hx rfl (dq (dg dah 14 rfl)) rfl) ?_
  show Rch p e below T32 (mkF m 19 #[vR ta, vR x, vR ea, vI n] [(.int (n + (1 : Int32))), (.ref ta)]) _
  obtain ⟨T34, h34, X34, e34, W34, st34⟩ := putF X32 hx hZ hown (host := "") (Or.inl (wq hw 62 rfl)) Via.refl e32 A_1.2.2.1 A_1.1 (Or.inl (wq hw 63 rfl)) (wq hw 32 rfl) (ty := .int) (by decide) rfl rfl (g := (mkF m 19 #[vR ta, vR x, vR ea, vI n] [(.int (n + (1 : Int32))), (.ref ta)])) rfl rfl (dq (dg dah 15 rfl))
  have KK35 : Keep h0 h34 [ta, ea] := KK33.wr W34 (Or.inl (by simp))
  have N34 := Fr.snoc X34 N32 hthis
  refine R0_ st34 ?_
  show Rch p e below T34 (mkF m 22 #[vR ta, vR x, vR ea, vI n] []) _
  exact Rch.fin (Q := Q_helpR Z ta x ea z n vs h0 n0) X34 (v := none) (fun _ => rfl) (BodyLoose.notSynchronized Bd) (fun fs hr => X34.returnOut hx Bd.returns (dq (dg dah 16 rfl)) hr) (by rw [e34]; exact ⟨rfl, N34, KK35, al_wrS hw A_1 W34⟩) (by decide) (by decide)
theorem dad : dxs jdk_38_method_25_code [(0, .aload_n 0, 1), (1, .dup, 1), (2, .getfield 63, 3), (5, .iconst 1, 1), (6, .iadd, 1), (7, .putfield 63, 3), (10, .aload_n 0, 1), (11, .aload_n 1, 1), (12, .aload_n 0, 1), (13, .getfield 9, 3), (16, .aload_n 0, 1), (17, .getfield 48, 3), (20, .invokevirtual 131, 3), (23, .iconst 1, 1), (24, .ireturn, 1)] = true := by decide +kernel
theorem pn_addG : plainFor (⟨"java/util/ArrayList", "add", "(Ljava/lang/Object;)Z"⟩ : MethodName) = true := plainFor_of_name (by first | (simp [plainName, overriddenIn]; done) | decide +kernel)
theorem ef_addG (m : MethodId) (x0 : Addr) (x1 : Addr) : entryFrame m #[(.ref x0), (.ref x1)] 2 = mkF m 0 #[vR x0, vR x1] [] := by first | (simp [entryFrame, mkF, argsToLocals, Value.category]; done) | rfl
def Q_addG (Z : State) (ta x da : Addr) (h0 : Heap) (n0 : Nat) (v : Option Value) (h : Heap) (L : List Loc) : Prop := ∃ ea, v = some (.int 1) ∧ Fr n0 L ∧ Keep h0 h [ta] ∧ h0.size ≤ ea ∧ Al Z h ta ea 10 1 [.ref x]
set_option maxRecDepth 65536 in
set_option maxHeartbeats 40000000 in
theorem rm_addG (l : Launch) (Z : State) (a0 : Array Value) (hw : ∀ d ∈ tables_1, d.before a0 Z = true) (ws : List Jvm.Cond) (ta x da : Addr) (h0 : Heap) (n0 : Nat) (Z0 : n0 ≤ h0.size) (hthis : n0 ≤ ta) (A : Al Z h0 ta da 0 0 []) (DS : Sta Z h0 "java/util/ArrayList" "DEFAULTCAPACITY_EMPTY_ELEMENTDATA" "[Ljava/lang/Object;" (.ref da)) (EX : Exa Z h0 x "java/lang/String") :
    MetFree l mN7 (head1 (Jvm.Cond.code mN7 jdk_38_method_25_code 2 (some .boolean) :: ws) rO7) (fun a U => a = #[(.ref ta), (.ref x)] ∧ Z.Warmed39 U.vm ∧ U.heap = h0) (fun _ _ _ _ _ => True) (fun _ U o U' => ∃ v L, o = .returned v ∧ Q_addG Z ta x da h0 n0 v U'.heap L ∧ FrameEnd U o U' L rO7.cells rO7.slots) := by
  refine MetFree.of_bodySF pn_addG hisR ?_
  intro p e s m args below meth c s₁ Bd hml0 hP hK
  obtain ⟨rfl, hZ, hh⟩ := hP
  have hx := Bd.exec
  have hby := Bd.bytes
  have dq := @hb _ _ hby
  have hml : c.maxLocals = 2 := hml0
  have hown : s.vm.findClass "java/util/ArrayList" = some m.cls := findClass_of_methodNamed Bd.named
  have X0 : Stand p l e rO7 s m #[(.ref ta), (.ref x)] below meth c s₁ [] 0 0 := Stand.of_body Bd
  have e0 : s₁.heap = h0 := by rw [← hh, Bd.state]; rfl
  have N0 := Fr.nil n0
  show Rch p e below s₁ (entryFrame m #[(.ref ta), (.ref x)] 2) (fun U o => ∃ v L, o = .returned v ∧ Q_addG Z ta x da h0 n0 v U.heap L ∧ FrameEnd s o U L rO7.cells rO7.slots)
  refine Rch.cast (ef_addG m ta x) ?_
  show Rch p e below s₁ (mkF m 0 #[vR ta, vR x] []) _
  obtain ⟨mc, Fm⟩ := A.2.2.2.1
  refine R1 (XS.aloadN X0.here hx rfl (dq (dg dad 0 rfl)) rfl rfl) ?_
  refine R1 (XS.dup X0.here hx rfl (dq (dg dad 1 rfl)) rfl rfl) ?_
  show Rch p e below s₁ (mkF m 2 #[vR ta, vR x] [(.ref ta), (.ref ta)]) _
  obtain ⟨T36, X36, e36, st36⟩ := getF X0 hx hZ hown (host := "") (Or.inl (wq hw 60 rfl)) (Via.of (wq hw 61 rfl)) e0 Fm (g := (mkF m 2 #[vR ta, vR x] [(.ref ta), (.ref ta)])) rfl rfl (dq (dg dad 2 rfl))
  refine R0_ st36 ?_
  show Rch p e below T36 (mkF m 5 #[vR ta, vR x] [(.int mc), (.ref ta)]) _
  refine R1 (XS.iconst X36.here hx rfl (dq (dg dad 3 rfl)) ) ?_
  refine R1 (XS.iadd X36.here hx rfl (dq (dg dad 4 rfl)) rfl) ?_
  show Rch p e below T36 (mkF m 7 #[vR ta, vR x] [(.int (mc + (1 : Int32))), (.ref ta)]) _
  obtain ⟨T37, h37, X37, e37, W37, st37⟩ := putF X36 hx hZ hown (host := "") (Or.inl (wq hw 60 rfl)) (Via.of (wq hw 61 rfl)) e36 Fm A.1 (Or.inl (wq hw 51 rfl)) (wq hw 32 rfl) (ty := .int) (by decide) rfl rfl (g := (mkF m 7 #[vR ta, vR x] [(.int (mc + (1 : Int32))), (.ref ta)])) rfl rfl (dq (dg dad 5 rfl))
  have KK38 : Keep h0 h37 [ta] := (Keep.refl _ _).wr W37 (Or.inl (by simp))
  have N37 := Fr.snoc X37 N0 hthis
  refine R0_ st37 ?_
  show Rch p e below T37 (mkF m 10 #[vR ta, vR x] []) _
  have A_0 := al_wrM hw A W37
  have DS0 := DS.wr W37
  refine R1 (XS.aloadN X37.here hx rfl (dq (dg dad 6 rfl)) rfl rfl) ?_
  refine R1 (XS.aloadN X37.here hx rfl (dq (dg dad 7 rfl)) rfl rfl) ?_
  refine R1 (XS.aloadN X37.here hx rfl (dq (dg dad 8 rfl)) rfl rfl) ?_
  show Rch p e below T37 (mkF m 13 #[vR ta, vR x] [(.ref ta), (.ref x), (.ref ta)]) _
  obtain ⟨T39, X39, e39, st39⟩ := getF X37 hx hZ hown (host := "") (Or.inl (wq hw 53 rfl)) Via.refl e37 A_0.2.1 (g := (mkF m 13 #[vR ta, vR x] [(.ref ta), (.ref x), (.ref ta)])) rfl rfl (dq (dg dad 9 rfl))
  refine R0_ st39 ?_
  show Rch p e below T39 (mkF m 16 #[vR ta, vR x] [(.ref da), (.ref x), (.ref ta)]) _
  refine R1 (XS.aloadN X39.here hx rfl (dq (dg dad 10 rfl)) rfl rfl) ?_
  show Rch p e below T39 (mkF m 17 #[vR ta, vR x] [(.ref ta), (.ref da), (.ref x), (.ref ta)]) _
  obtain ⟨T40, X40, e40, st40⟩ := getF X39 hx hZ hown (host := "") (Or.inl (wq hw 62 rfl)) Via.refl e39 A_0.2.2.1 (g := (mkF m 17 #[vR ta, vR x] [(.ref ta), (.ref da), (.ref x), (.ref ta)])) rfl rfl (dq (dg dad 11 rfl))
  refine R0_ st40 ?_
  show Rch p e below T40 (mkF m 20 #[vR ta, vR x] [(.int (0 : Int32)), (.ref da), (.ref x), (.ref ta)]) _
  have z0 : h0.size ≤ h37.size := KK38.1
  obtain ⟨ce41, q41, q41'⟩ := ((Ins.self A_0.1)).cell
  obtain ⟨_, _, ⟨T41, L41, k41, n41⟩, -, X41, ⟨Lc41, hQ41, l41, y41, z41⟩, st41⟩ := X40.privateBack hx (y := mN6) hown (mw hZ hw 64 rfl) (mw hZ hw 65 rfl) (mw hZ hw 67 rfl) (Cond.privateMethod_at (mvP hZ (wq hw 66 rfl) (args := #[]))) (mw hZ hw 68 rfl) (by decide) (backOf (W := 0) (rm_helpG l Z a0 hw [] ta x da h37 n0 (Nat.le_trans Z0 z0) hthis A_0 DS0 (EX.wr W37)) hZ (wq hw 68 rfl) (wq hw 33 rfl) (by decide) (by decide)) (g := (mkF m 20 #[vR ta, vR x] [(.int (0 : Int32)), (.ref da), (.ref x), (.ref ta)])) rfl (by rw [hml]; rfl) (Steps.refl _) (a := ta) (by rw [e40]; exact q41) q41' (argsL := [(.ref x), (.ref da), (.int (0 : Int32))]) (rest := []) (lenOf pd_4 rfl) rfl (w0 rfl) (dq (dg dad 12 rfl)) (fun _ _ => ⟨rfl, e40, (by decide : 0 + 1 ≤ _), (by decide : 0 + 10 ≤ _)⟩)
  dsimp only [Pt.U, Pt.locs, Pt.cells, Pt.slots] at X41 l41 y41 z41 st41 hQ41
  subst l41 y41 z41
  obtain ⟨ea41, rfl, Nq41, K41, le41_, A41⟩ := hQ41
  have N41 := Fr.app N37 Nq41
  have KK42 : Keep h0 T41.heap [ta] := KK38.trans K41 (allS (Or.inl (by simp)) all0)
  refine R2 st41 ?_
  show Rch p e below T41 (mkF m 23 #[vR ta, vR x] []) _
  refine R1 (XS.iconst X41.here hx rfl (dq (dg dad 13 rfl)) ) ?_
  show Rch p e below T41 (mkF m 24 #[vR ta, vR x] [(.int (1 : Int32))]) _
  exact Rch.fin (Q := Q_addG Z ta x da h0 n0) X41 (v := some (.int (1 : Int32))) (fun h => by rw [Bd.returns] at h; cases h) (BodyLoose.notSynchronized Bd) (fun fs hr => retN X41 hx (t := .boolean) Bd.returns (by simp) (dq (dg dad 14 rfl)) hr) ⟨ea41, rfl, N41, KK42, Nat.le_trans z0 le41_, A41⟩ (by decide) (by decide)
def Q_addR (Z : State) (ta x ea : Addr) (z n : Int32) (vs : List Value) (h0 : Heap) (n0 : Nat) (v : Option Value) (h : Heap) (L : List Loc) : Prop := v = some (.int 1) ∧ Fr n0 L ∧ Keep h0 h [ta, ea] ∧ Al Z h ta ea z (n + 1) (vs ++ [.ref x])
set_option maxRecDepth 65536 in
set_option maxHeartbeats 40000000 in
theorem rm_addR (l : Launch) (Z : State) (a0 : Array Value) (hw : ∀ d ∈ tables_1, d.before a0 Z = true) (ws : List Jvm.Cond) (ta x ea : Addr) (z n : Int32) (vs : List Value) (h0 : Heap) (n0 : Nat) (Z0 : n0 ≤ h0.size) (hthis : n0 ≤ ta) (hea : n0 ≤ ea) (A : Al Z h0 ta ea z n vs) (EX : Exa Z h0 x "java/lang/String") (hne : ¬ n = z) (hj : ¬ n < 0 ∧ n < z) (hl : n.toNatClampNeg = vs.length) :
    MetFree l mN7 (head1 (Jvm.Cond.code mN7 jdk_38_method_25_code 2 (some .boolean) :: ws) rO8) (fun a U => a = #[(.ref ta), (.ref x)] ∧ Z.Warmed39 U.vm ∧ U.heap = h0) (fun _ _ _ _ _ => True) (fun _ U o U' => ∃ v L, o = .returned v ∧ Q_addR Z ta x ea z n vs h0 n0 v U'.heap L ∧ FrameEnd U o U' L rO8.cells rO8.slots) := by
  refine MetFree.of_bodySF pn_addG hisR ?_
  intro p e s m args below meth c s₁ Bd hml0 hP hK
  obtain ⟨rfl, hZ, hh⟩ := hP
  have hx := Bd.exec
  have hby := Bd.bytes
  have dq := @hb _ _ hby
  have hml : c.maxLocals = 2 := hml0
  have hown : s.vm.findClass "java/util/ArrayList" = some m.cls := findClass_of_methodNamed Bd.named
  have X0 : Stand p l e rO8 s m #[(.ref ta), (.ref x)] below meth c s₁ [] 0 0 := Stand.of_body Bd
  have e0 : s₁.heap = h0 := by rw [← hh, Bd.state]; rfl
  have N0 := Fr.nil n0
  show Rch p e below s₁ (entryFrame m #[(.ref ta), (.ref x)] 2) (fun U o => ∃ v L, o = .returned v ∧ Q_addR Z ta x ea z n vs h0 n0 v U.heap L ∧ FrameEnd s o U L rO8.cells rO8.slots)
  refine Rch.cast (ef_addG m ta x) ?_
  show Rch p e below s₁ (mkF m 0 #[vR ta, vR x] []) _
  obtain ⟨mc, Fm⟩ := A.2.2.2.1
  refine R1 (XS.aloadN X0.here hx rfl (dq (dg dad 0 rfl)) rfl rfl) ?_
  refine R1 (XS.dup X0.here hx rfl (dq (dg dad 1 rfl)) rfl rfl) ?_
  show Rch p e below s₁ (mkF m 2 #[vR ta, vR x] [(.ref ta), (.ref ta)]) _
  obtain ⟨T43, X43, e43, st43⟩ := getF X0 hx hZ hown (host := "") (Or.inl (wq hw 60 rfl)) (Via.of (wq hw 61 rfl)) e0 Fm (g := (mkF m 2 #[vR ta, vR x] [(.ref ta), (.ref ta)])) rfl rfl (dq (dg dad 2 rfl))
  refine R0_ st43 ?_
  show Rch p e below T43 (mkF m 5 #[vR ta, vR x] [(.int mc), (.ref ta)]) _
  refine R1 (XS.iconst X43.here hx rfl (dq (dg dad 3 rfl)) ) ?_
  refine R1 (XS.iadd X43.here hx rfl (dq (dg dad 4 rfl)) rfl) ?_
  show Rch p e below T43 (mkF m 7 #[vR ta, vR x] [(.int (mc + (1 : Int32))), (.ref ta)]) _
  obtain ⟨T44, h44, X44, e44, W44, st44⟩ := putF X43 hx hZ hown (host := "") (Or.inl (wq hw 60 rfl)) (Via.of (wq hw 61 rfl)) e43 Fm A.1 (Or.inl (wq hw 51 rfl)) (wq hw 32 rfl) (ty := .int) (by decide) rfl rfl (g := (mkF m 7 #[vR ta, vR x] [(.int (mc + (1 : Int32))), (.ref ta)])) rfl rfl (dq (dg dad 5 rfl))
  have KK45 : Keep h0 h44 [ta, ea] := (Keep.refl _ _).wr W44 (Or.inl (by simp))
  have N44 := Fr.snoc X44 N0 hthis
  refine R0_ st44 ?_
  show Rch p e below T44 (mkF m 10 #[vR ta, vR x] []) _
  have A_0 := al_wrM hw A W44
  refine R1 (XS.aloadN X44.here hx rfl (dq (dg dad 6 rfl)) rfl rfl) ?_
  refine R1 (XS.aloadN X44.here hx rfl (dq (dg dad 7 rfl)) rfl rfl) ?_
  refine R1 (XS.aloadN X44.here hx rfl (dq (dg dad 8 rfl)) rfl rfl) ?_
  show Rch p e below T44 (mkF m 13 #[vR ta, vR x] [(.ref ta), (.ref x), (.ref ta)]) _
  obtain ⟨T46, X46, e46, st46⟩ := getF X44 hx hZ hown (host := "") (Or.inl (wq hw 53 rfl)) Via.refl e44 A_0.2.1 (g := (mkF m 13 #[vR ta, vR x] [(.ref ta), (.ref x), (.ref ta)])) rfl rfl (dq (dg dad 9 rfl))
  refine R0_ st46 ?_
  show Rch p e below T46 (mkF m 16 #[vR ta, vR x] [(.ref ea), (.ref x), (.ref ta)]) _
  refine R1 (XS.aloadN X46.here hx rfl (dq (dg dad 10 rfl)) rfl rfl) ?_
  show Rch p e below T46 (mkF m 17 #[vR ta, vR x] [(.ref ta), (.ref ea), (.ref x), (.ref ta)]) _
  obtain ⟨T47, X47, e47, st47⟩ := getF X46 hx hZ hown (host := "") (Or.inl (wq hw 62 rfl)) Via.refl e46 A_0.2.2.1 (g := (mkF m 17 #[vR ta, vR x] [(.ref ta), (.ref ea), (.ref x), (.ref ta)])) rfl rfl (dq (dg dad 11 rfl))
  refine R0_ st47 ?_
  show Rch p e below T47 (mkF m 20 #[vR ta, vR x] [(.int n), (.ref ea), (.ref x), (.ref ta)]) _
  have z0 : h0.size ≤ h44.size := KK45.1
  obtain ⟨ce48, q48, q48'⟩ := ((Ins.self A_0.1)).cell
  obtain ⟨_, _, ⟨T48, L48, k48, n48⟩, -, X48, ⟨Lc48, hQ48, l48, y48, z48⟩, st48⟩ := X47.privateBack hx (y := mN6) hown (mw hZ hw 64 rfl) (mw hZ hw 65 rfl) (mw hZ hw 67 rfl) (Cond.privateMethod_at (mvP hZ (wq hw 66 rfl) (args := #[]))) (mw hZ hw 68 rfl) (by decide) (backOf (W := 0) (rm_helpR l Z a0 hw [] ta x ea z n vs h44 n0 (Nat.le_trans Z0 z0) hthis hea A_0 (EX.wr W44) hne hj hl) hZ (wq hw 68 rfl) (wq hw 33 rfl) (by decide) (by decide)) (g := (mkF m 20 #[vR ta, vR x] [(.int n), (.ref ea), (.ref x), (.ref ta)])) rfl (by rw [hml]; rfl) (Steps.refl _) (a := ta) (by rw [e47]; exact q48) q48' (argsL := [(.ref x), (.ref ea), (.int n)]) (rest := []) (lenOf pd_4 rfl) rfl (w0 rfl) (dq (dg dad 12 rfl)) (fun _ _ => ⟨rfl, e47, (by decide : 0 + 0 ≤ _), (by decide : 0 + 0 ≤ _)⟩)
  dsimp only [Pt.U, Pt.locs, Pt.cells, Pt.slots] at X48 l48 y48 z48 st48 hQ48
  subst l48 y48 z48
  obtain ⟨rfl, Nq48, K48, A48⟩ := hQ48
  have N48 := Fr.app N44 Nq48
  have KK49 : Keep h0 T48.heap [ta, ea] := KK45.trans K48 (allS (Or.inl (by simp)) (allS (Or.inl (by simp)) all0))
  refine R2 st48 ?_
  show Rch p e below T48 (mkF m 23 #[vR ta, vR x] []) _
  refine R1 (XS.iconst X48.here hx rfl (dq (dg dad 13 rfl)) ) ?_
  show Rch p e below T48 (mkF m 24 #[vR ta, vR x] [(.int (1 : Int32))]) _
  exact Rch.fin (Q := Q_addR Z ta x ea z n vs h0 n0) X48 (v := some (.int (1 : Int32))) (fun h => by rw [Bd.returns] at h; cases h) (BodyLoose.notSynchronized Bd) (fun fs hr => retN X48 hx (t := .boolean) Bd.returns (by simp) (dq (dg dad 14 rfl)) hr) ⟨rfl, N48, KK49, A48⟩ (by decide) (by decide)
theorem dsz : dxs jdk_38_method_8_code [(0, .aload_n 0, 1), (1, .getfield 48, 3), (4, .ireturn, 1)] = true := by decide +kernel
theorem pn_alSize : plainFor (⟨"java/util/ArrayList", "size", "()I"⟩ : MethodName) = true := plainFor_of_name (by first | (simp [plainName, overriddenIn]; done) | decide +kernel)
def Q_alSize (Z : State) (ta ea : Addr) (z n : Int32) (vs : List Value) (h0 : Heap) (n0 : Nat) (v : Option Value) (h : Heap) (L : List Loc) : Prop := v = some (.int n) ∧ Fr n0 L ∧ h = h0
set_option maxRecDepth 65536 in
set_option maxHeartbeats 40000000 in
theorem rm_alSize (l : Launch) (Z : State) (a0 : Array Value) (hw : ∀ d ∈ tables_1, d.before a0 Z = true) (ws : List Jvm.Cond) (ta ea : Addr) (z n : Int32) (vs : List Value) (h0 : Heap) (n0 : Nat) (Z0 : n0 ≤ h0.size) (A : Al Z h0 ta ea z n vs) :
    MetFree l mN8 (head1 (Jvm.Cond.code mN8 jdk_38_method_8_code 1 (some .int) :: ws) rO3) (fun a U => a = #[(.ref ta)] ∧ Z.Warmed39 U.vm ∧ U.heap = h0) (fun _ _ _ _ _ => True) (fun _ U o U' => ∃ v L, o = .returned v ∧ Q_alSize Z ta ea z n vs h0 n0 v U'.heap L ∧ FrameEnd U o U' L rO3.cells rO3.slots) := by
  refine MetFree.of_bodySF pn_alSize hisR ?_
  intro p e s m args below meth c s₁ Bd hml0 hP hK
  obtain ⟨rfl, hZ, hh⟩ := hP
  have hx := Bd.exec
  have hby := Bd.bytes
  have dq := @hb _ _ hby
  have hml : c.maxLocals = 1 := hml0
  have hown : s.vm.findClass "java/util/ArrayList" = some m.cls := findClass_of_methodNamed Bd.named
  have X0 : Stand p l e rO3 s m #[(.ref ta)] below meth c s₁ [] 0 0 := Stand.of_body Bd
  have e0 : s₁.heap = h0 := by rw [← hh, Bd.state]; rfl
  have N0 := Fr.nil n0
  show Rch p e below s₁ (entryFrame m #[(.ref ta)] 1) (fun U o => ∃ v L, o = .returned v ∧ Q_alSize Z ta ea z n vs h0 n0 v U.heap L ∧ FrameEnd s o U L rO3.cells rO3.slots)
  refine Rch.cast (ef_acInit m ta) ?_
  show Rch p e below s₁ (mkF m 0 #[vR ta] []) _
  refine R1 (XS.aloadN X0.here hx rfl (dq (dg dsz 0 rfl)) rfl rfl) ?_
  show Rch p e below s₁ (mkF m 1 #[vR ta] [(.ref ta)]) _
  obtain ⟨T50, X50, e50, st50⟩ := getF X0 hx hZ hown (host := "") (Or.inl (wq hw 62 rfl)) Via.refl e0 A.2.2.1 (g := (mkF m 1 #[vR ta] [(.ref ta)])) rfl rfl (dq (dg dsz 1 rfl))
  refine R0_ st50 ?_
  show Rch p e below T50 (mkF m 4 #[vR ta] [(.int n)]) _
  exact Rch.fin (Q := Q_alSize Z ta ea z n vs h0 n0) X50 (v := some (.int n)) (fun h => by rw [Bd.returns] at h; cases h) (BodyLoose.notSynchronized Bd) (fun fs hr => retI X50 hx Bd.returns (dq (dg dsz 2 rfl)) hr) (by rw [e50]; exact ⟨rfl, N0, rfl⟩) (by decide) (by decide)
theorem die : dxs jdk_38_method_9_code [(0, .aload_n 0, 1), (1, .getfield 48, 3), (4, .ifCond .ne 7, 3), (11, .iconst 0, 1), (12, .ireturn, 1)] = true := by decide +kernel
theorem pn_alEmp : plainFor (⟨"java/util/ArrayList", "isEmpty", "()Z"⟩ : MethodName) = true := plainFor_of_name (by first | (simp [plainName, overriddenIn]; done) | decide +kernel)
def Q_alEmp (Z : State) (ta ea : Addr) (z n : Int32) (vs : List Value) (h0 : Heap) (n0 : Nat) (v : Option Value) (h : Heap) (L : List Loc) : Prop := v = some (.int 0) ∧ Fr n0 L ∧ h = h0
set_option maxRecDepth 65536 in
set_option maxHeartbeats 40000000 in
theorem rm_alEmp (l : Launch) (Z : State) (a0 : Array Value) (hw : ∀ d ∈ tables_1, d.before a0 Z = true) (ws : List Jvm.Cond) (ta ea : Addr) (z n : Int32) (vs : List Value) (h0 : Heap) (n0 : Nat) (Z0 : n0 ≤ h0.size) (A : Al Z h0 ta ea z n vs) (hn : ¬ n = 0) :
    MetFree l mN9 (head1 (Jvm.Cond.code mN9 jdk_38_method_9_code 1 (some .boolean) :: ws) rO3) (fun a U => a = #[(.ref ta)] ∧ Z.Warmed39 U.vm ∧ U.heap = h0) (fun _ _ _ _ _ => True) (fun _ U o U' => ∃ v L, o = .returned v ∧ Q_alEmp Z ta ea z n vs h0 n0 v U'.heap L ∧ FrameEnd U o U' L rO3.cells rO3.slots) := by
  refine MetFree.of_bodySF pn_alEmp hisR ?_
  intro p e s m args below meth c s₁ Bd hml0 hP hK
  obtain ⟨rfl, hZ, hh⟩ := hP
  have hx := Bd.exec
  have hby := Bd.bytes
  have dq := @hb _ _ hby
  have hml : c.maxLocals = 1 := hml0
  have hown : s.vm.findClass "java/util/ArrayList" = some m.cls := findClass_of_methodNamed Bd.named
  have X0 : Stand p l e rO3 s m #[(.ref ta)] below meth c s₁ [] 0 0 := Stand.of_body Bd
  have e0 : s₁.heap = h0 := by rw [← hh, Bd.state]; rfl
  have N0 := Fr.nil n0
  show Rch p e below s₁ (entryFrame m #[(.ref ta)] 1) (fun U o => ∃ v L, o = .returned v ∧ Q_alEmp Z ta ea z n vs h0 n0 v U.heap L ∧ FrameEnd s o U L rO3.cells rO3.slots)
  refine Rch.cast (ef_acInit m ta) ?_
  show Rch p e below s₁ (mkF m 0 #[vR ta] []) _
  refine R1 (XS.aloadN X0.here hx rfl (dq (dg die 0 rfl)) rfl rfl) ?_
  show Rch p e below s₁ (mkF m 1 #[vR ta] [(.ref ta)]) _
  obtain ⟨T51, X51, e51, st51⟩ := getF X0 hx hZ hown (host := "") (Or.inl (wq hw 62 rfl)) Via.refl e0 A.2.2.1 (g := (mkF m 1 #[vR ta] [(.ref ta)])) rfl rfl (dq (dg die 1 rfl))
  refine R0_ st51 ?_
  show Rch p e below T51 (mkF m 4 #[vR ta] [(.int n)]) _
  refine R1 (XS.ifYes X51.here hx rfl (pc0 := 4) (pc' := 11) rfl (dq (dg die 2 rfl)) rfl ((if0 _ _).trans (feq hn).2) (by decide) (by decide)) ?_
  refine R1 (XS.iconst X51.here hx rfl (dq (dg die 3 rfl)) ) ?_
  show Rch p e below T51 (mkF m 12 #[vR ta] [(.int (0 : Int32))]) _
  exact Rch.fin (Q := Q_alEmp Z ta ea z n vs h0 n0) X51 (v := some (.int (0 : Int32))) (fun h => by rw [Bd.returns] at h; cases h) (BodyLoose.notSynchronized Bd) (fun fs hr => retN X51 hx (t := .boolean) Bd.returns (by simp) (dq (dg die 4 rfl)) hr) (by rw [e51]; exact ⟨rfl, N0, rfl⟩) (by decide) (by decide)
theorem dpc : dxs jdk_41_method_11_code [(0, .iload_n 0, 1), (1, .ifCond .lt 8, 3), (4, .iload_n 0, 1), (5, .iload_n 1, 1), (6, .if_icmp .lt 10, 3), (16, .iload_n 0, 1), (17, .ireturn, 1)] = true := by decide +kernel
theorem pn_pchk : plainFor (⟨"jdk/internal/util/Preconditions", "checkIndex", "(IILjava/util/function/BiFunction;)I"⟩ : MethodName) = true := plainFor_of_name (by first | (simp [plainName, overriddenIn]; done) | decide +kernel)
theorem ef_pchk (m : MethodId) (x0 : Int32) (x1 : Int32) : entryFrame m #[(.int x0), (.int x1), .null] 3 = mkF m 0 #[vI x0, vI x1, .val .null] [] := by first | (simp [entryFrame, mkF, argsToLocals, Value.category]; done) | rfl
def Q_pchk (Z : State) (i n : Int32) (h0 : Heap) (n0 : Nat) (v : Option Value) (h : Heap) (L : List Loc) : Prop := v = some (.int i) ∧ Fr n0 L ∧ h = h0
set_option maxRecDepth 65536 in
set_option maxHeartbeats 40000000 in
theorem rm_pchk (l : Launch) (Z : State) (a0 : Array Value) (hw : ∀ d ∈ tables_1, d.before a0 Z = true) (ws : List Jvm.Cond) (i n : Int32) (h0 : Heap) (n0 : Nat) (Z0 : n0 ≤ h0.size) (h1 : ¬ i < 0) (h2 : i < n) :
    MetFree l mN10 (head1 (Jvm.Cond.code mN10 jdk_41_method_11_code 3 (some .int) :: ws) rO3) (fun a U => a = #[(.int i), (.int n), .null] ∧ Z.Warmed39 U.vm ∧ U.heap = h0) (fun _ _ _ _ _ => True) (fun _ U o U' => ∃ v L, o = .returned v ∧ Q_pchk Z i n h0 n0 v U'.heap L ∧ FrameEnd U o U' L rO3.cells rO3.slots) := by
  refine MetFree.of_bodySF pn_pchk hisR ?_
  intro p e s m args below meth c s₁ Bd hml0 hP hK
  obtain ⟨rfl, hZ, hh⟩ := hP
  have hx := Bd.exec
  have hby := Bd.bytes
  have dq := @hb _ _ hby
  have hml : c.maxLocals = 3 := hml0
  have X0 : Stand p l e rO3 s m #[(.int i), (.int n), .null] below meth c s₁ [] 0 0 := Stand.of_body Bd
  have e0 : s₁.heap = h0 := by rw [← hh, Bd.state]; rfl
  have N0 := Fr.nil n0
  show Rch p e below s₁ (entryFrame m #[(.int i), (.int n), .null] 3) (fun U o => ∃ v L, o = .returned v ∧ Q_pchk Z i n h0 n0 v U.heap L ∧ FrameEnd s o U L rO3.cells rO3.slots)
  refine Rch.cast (ef_pchk m i n) ?_
  show Rch p e below s₁ (mkF m 0 #[vI i, vI n, .val .null] []) _
  refine R1 (XS.iloadN X0.here hx rfl (dq (dg dpc 0 rfl)) rfl) ?_
  refine R1 (XS.ifNo X0.here hx rfl (dq (dg dpc 1 rfl)) rfl ((if0 _ _).trans (flt h1).1)) ?_
  refine R1 (XS.iloadN X0.here hx rfl (dq (dg dpc 2 rfl)) rfl) ?_
  refine R1 (XS.iloadN X0.here hx rfl (dq (dg dpc 3 rfl)) rfl) ?_
  show Rch p e below s₁ (mkF m 6 #[vI i, vI n, .val .null] [(.int n), (.int i)]) _
  refine R1 (XS.icmpYes X0.here hx rfl (pc0 := 6) (pc' := 16) rfl (dq (dg dpc 4 rfl)) rfl (tlt h2).1 (by decide) (by decide)) ?_
  refine R1 (XS.iloadN X0.here hx rfl (dq (dg dpc 5 rfl)) rfl) ?_
  show Rch p e below s₁ (mkF m 17 #[vI i, vI n, .val .null] [(.int i)]) _
  exact Rch.fin (Q := Q_pchk Z i n h0 n0) X0 (v := some (.int i)) (fun h => by rw [Bd.returns] at h; cases h) (BodyLoose.notSynchronized Bd) (fun fs hr => retI X0 hx Bd.returns (dq (dg dpc 6 rfl)) hr) (by rw [e0]; exact ⟨rfl, N0, rfl⟩) (by decide) (by decide)
theorem doc : dxs jdk_31_method_17_code [(0, .iload_n 0, 1), (1, .iload_n 1, 1), (2, .aconst_null, 1), (3, .invokestatic 105, 3), (6, .ireturn, 1)] = true := by decide +kernel
theorem pn_ochk : plainFor (⟨"java/util/Objects", "checkIndex", "(II)I"⟩ : MethodName) = true := plainFor_of_name (by first | (simp [plainName, overriddenIn]; done) | decide +kernel)
def Q_ochk (Z : State) (i n : Int32) (h0 : Heap) (n0 : Nat) (v : Option Value) (h : Heap) (L : List Loc) : Prop := v = some (.int i) ∧ Fr n0 L ∧ h = h0
set_option maxRecDepth 65536 in
set_option maxHeartbeats 40000000 in
theorem rm_ochk (l : Launch) (Z : State) (a0 : Array Value) (hw : ∀ d ∈ tables_1, d.before a0 Z = true) (ws : List Jvm.Cond) (i n : Int32) (h0 : Heap) (n0 : Nat) (Z0 : n0 ≤ h0.size) (h1 : ¬ i < 0) (h2 : i < n) :
    MetFree l mN11 (head1 (Jvm.Cond.code mN11 jdk_31_method_17_code 2 (some .int) :: ws) rO9) (fun a U => a = #[(.int i), (.int n)] ∧ Z.Warmed39 U.vm ∧ U.heap = h0) (fun _ _ _ _ _ => True) (fun _ U o U' => ∃ v L, o = .returned v ∧ Q_ochk Z i n h0 n0 v U'.heap L ∧ FrameEnd U o U' L rO9.cells rO9.slots) := by
  refine MetFree.of_bodySF pn_ochk hisR ?_
  intro p e s m args below meth c s₁ Bd hml0 hP hK
  obtain ⟨rfl, hZ, hh⟩ := hP
  have hx := Bd.exec
  have hby := Bd.bytes
  have dq := @hb _ _ hby
  have hml : c.maxLocals = 2 := hml0
  have hown : s.vm.findClass "java/util/Objects" = some m.cls := findClass_of_methodNamed Bd.named
  have X0 : Stand p l e rO9 s m #[(.int i), (.int n)] below meth c s₁ [] 0 0 := Stand.of_body Bd
  have e0 : s₁.heap = h0 := by rw [← hh, Bd.state]; rfl
  have N0 := Fr.nil n0
  show Rch p e below s₁ (entryFrame m #[(.int i), (.int n)] 2) (fun U o => ∃ v L, o = .returned v ∧ Q_ochk Z i n h0 n0 v U.heap L ∧ FrameEnd s o U L rO9.cells rO9.slots)
  refine Rch.cast (ef_mmax m i n) ?_
  show Rch p e below s₁ (mkF m 0 #[vI i, vI n] []) _
  refine R1 (XS.iloadN X0.here hx rfl (dq (dg doc 0 rfl)) rfl) ?_
  refine R1 (XS.iloadN X0.here hx rfl (dq (dg doc 1 rfl)) rfl) ?_
  refine R1 (XS.aconstNull X0.here hx rfl (dq (dg doc 2 rfl)) ) ?_
  show Rch p e below s₁ (mkF m 3 #[vI i, vI n] [.null, (.int n), (.int i)]) _
  obtain ⟨_, _, ⟨T52, L52, k52, n52⟩, -, X52, ⟨Lc52, hQ52, l52, y52, z52⟩, st52⟩ := Jvm.LawKit.callS X0 hx (y := mN10) hown (mw hZ hw 128 rfl) (mw hZ hw 129 rfl) (mw hZ hw 130 rfl) (mw hZ hw 131 rfl) (by decide) (backOf (W := 0) (rm_pchk l Z a0 hw [] i n h0 n0 Z0 h1 h2) hZ (wq hw 131 rfl) (wq hw 130 rfl) (by decide) (by decide)) (g := (mkF m 3 #[vI i, vI n] [.null, (.int n), (.int i)])) rfl (by rw [hml]; rfl) (argsL := [(.int i), (.int n), .null]) (rest := []) (lenOf pd_5 rfl) rfl (w0 rfl) (dq (dg doc 3 rfl)) (fun _ _ => ⟨rfl, e0, (by decide : 0 + 0 ≤ _), (by decide : 0 + 0 ≤ _)⟩)
  dsimp only [Pt.U, Pt.locs, Pt.cells, Pt.slots] at X52 l52 y52 z52 st52 hQ52
  subst l52 y52 z52
  obtain ⟨rfl, Nq52, e52⟩ := hQ52
  have N52 := Fr.app N0 Nq52
  refine R0_ st52 ?_
  show Rch p e below T52 (mkF m 6 #[vI i, vI n] [(.int i)]) _
  exact Rch.fin (Q := Q_ochk Z i n h0 n0) X52 (v := some (.int i)) (fun h => by rw [Bd.returns] at h; cases h) (BodyLoose.notSynchronized Bd) (fun fs hr => retI X52 hx Bd.returns (dq (dg doc 4 rfl)) hr) (by rw [e52]; exact ⟨rfl, N52, rfl⟩) (by decide) (by decide)
theorem ded : dxs jdk_38_method_18_code [(0, .aload_n 0, 1), (1, .getfield 9, 3), (4, .iload_n 1, 1), (5, .aaload, 1), (6, .areturn, 1)] = true := by decide +kernel
theorem pn_alElem : plainFor (⟨"java/util/ArrayList", "elementData", "(I)Ljava/lang/Object;"⟩ : MethodName) = true := plainFor_of_name (by first | (simp [plainName, overriddenIn]; done) | decide +kernel)
theorem ef_alElem (m : MethodId) (x0 : Addr) (x1 : Int32) : entryFrame m #[(.ref x0), (.int x1)] 2 = mkF m 0 #[vR x0, vI x1] [] := by first | (simp [entryFrame, mkF, argsToLocals, Value.category]; done) | rfl
def Q_alElem (Z : State) (ta ea : Addr) (z n : Int32) (vs : List Value) (i : Int32) (y : Addr) (h0 : Heap) (n0 : Nat) (v : Option Value) (h : Heap) (L : List Loc) : Prop := v = some (.ref y) ∧ Fr n0 L ∧ h = h0
set_option maxRecDepth 65536 in
set_option maxHeartbeats 40000000 in
theorem rm_alElem (l : Launch) (Z : State) (a0 : Array Value) (hw : ∀ d ∈ tables_1, d.before a0 Z = true) (ws : List Jvm.Cond) (ta ea : Addr) (z n : Int32) (vs : List Value) (i : Int32) (y : Addr) (h0 : Heap) (n0 : Nat) (Z0 : n0 ≤ h0.size) (A : Al Z h0 ta ea z n vs) (hi : ¬ i < 0 ∧ i < z) (hv : vs.getD i.toNatClampNeg .null = .ref y) :
    MetFree l mN12 (head1 (Jvm.Cond.code mN12 jdk_38_method_18_code 2 (some (.object "java/lang/Object")) :: ws) rO3) (fun a U => a = #[(.ref ta), (.int i)] ∧ Z.Warmed39 U.vm ∧ U.heap = h0) (fun _ _ _ _ _ => True) (fun _ U o U' => ∃ v L, o = .returned v ∧ Q_alElem Z ta ea z n vs i y h0 n0 v U'.heap L ∧ FrameEnd U o U' L rO3.cells rO3.slots) := by
  refine MetFree.of_bodySF pn_alElem hisR ?_
  intro p e s m args below meth c s₁ Bd hml0 hP hK
  obtain ⟨rfl, hZ, hh⟩ := hP
  have hx := Bd.exec
  have hby := Bd.bytes
  have dq := @hb _ _ hby
  have hml : c.maxLocals = 2 := hml0
  have hown : s.vm.findClass "java/util/ArrayList" = some m.cls := findClass_of_methodNamed Bd.named
  have X0 : Stand p l e rO3 s m #[(.ref ta), (.int i)] below meth c s₁ [] 0 0 := Stand.of_body Bd
  have e0 : s₁.heap = h0 := by rw [← hh, Bd.state]; rfl
  have N0 := Fr.nil n0
  show Rch p e below s₁ (entryFrame m #[(.ref ta), (.int i)] 2) (fun U o => ∃ v L, o = .returned v ∧ Q_alElem Z ta ea z n vs i y h0 n0 v U.heap L ∧ FrameEnd s o U L rO3.cells rO3.slots)
  refine Rch.cast (ef_alElem m ta i) ?_
  show Rch p e below s₁ (mkF m 0 #[vR ta, vI i] []) _
  refine R1 (XS.aloadN X0.here hx rfl (dq (dg ded 0 rfl)) rfl rfl) ?_
  show Rch p e below s₁ (mkF m 1 #[vR ta, vI i] [(.ref ta)]) _
  obtain ⟨T53, X53, e53, st53⟩ := getF X0 hx hZ hown (host := "") (Or.inl (wq hw 53 rfl)) Via.refl e0 A.2.1 (g := (mkF m 1 #[vR ta, vI i] [(.ref ta)])) rfl rfl (dq (dg ded 1 rfl))
  refine R0_ st53 ?_
  show Rch p e below T53 (mkF m 4 #[vR ta, vI i] [(.ref ea)]) _
  refine R1 (XS.iloadN X53.here hx rfl (dq (dg ded 2 rfl)) rfl) ?_
  show Rch p e below T53 (mkF m 5 #[vR ta, vI i] [(.int i), (.ref ea)]) _
  obtain ⟨kk54, M54⟩ := (A.2.2.2.2).arh
  refine R0_ (aalA X53 hx hZ e53 M54 rfl hi (v := (.ref y)) hv (g := (mkF m 5 #[vR ta, vI i] [(.int i), (.ref ea)])) rfl rfl (dq (dg ded 3 rfl))) ?_
  show Rch p e below T53 (mkF m 6 #[vR ta, vI i] [(.ref y)]) _
  exact Rch.fin (Q := Q_alElem Z ta ea z n vs i y h0 n0) X53 (v := some (.ref y)) (fun h => by rw [Bd.returns] at h; cases h) (BodyLoose.notSynchronized Bd) (fun fs hr => retR X53 hx Bd.returns rfl rfl (dq (dg ded 4 rfl)) hr) (by rw [e53]; exact ⟨rfl, N0, rfl⟩) (by decide) (by decide)
theorem dge : dxs jdk_38_method_20_code [(0, .iload_n 1, 1), (1, .aload_n 0, 1), (2, .getfield 48, 3), (5, .invokestatic 118, 3), (8, .pop, 1), (9, .aload_n 0, 1), (10, .iload_n 1, 1), (11, .invokevirtual 123, 3), (14, .areturn, 1)] = true := by decide +kernel
theorem pn_alGet : plainFor (⟨"java/util/ArrayList", "get", "(I)Ljava/lang/Object;"⟩ : MethodName) = true := plainFor_of_name (by first | (simp [plainName, overriddenIn]; done) | decide +kernel)
def Q_alGet (Z : State) (ta ea : Addr) (z n : Int32) (vs : List Value) (i : Int32) (y : Addr) (h0 : Heap) (n0 : Nat) (v : Option Value) (h : Heap) (L : List Loc) : Prop := v = some (.ref y) ∧ Fr n0 L ∧ h = h0
set_option maxRecDepth 65536 in
set_option maxHeartbeats 40000000 in
theorem rm_alGet (l : Launch) (Z : State) (a0 : Array Value) (hw : ∀ d ∈ tables_1, d.before a0 Z = true) (ws : List Jvm.Cond) (ta ea : Addr) (z n : Int32) (vs : List Value) (i : Int32) (y : Addr) (h0 : Heap) (n0 : Nat) (Z0 : n0 ≤ h0.size) (A : Al Z h0 ta ea z n vs) (hi : ¬ i < 0 ∧ i < z) (hv : vs.getD i.toNatClampNeg .null = .ref y) (hin : i < n) :
    MetFree l mN13 (head1 (Jvm.Cond.code mN13 jdk_38_method_20_code 2 (some (.object "java/lang/Object")) :: ws) rO10) (fun a U => a = #[(.ref ta), (.int i)] ∧ Z.Warmed39 U.vm ∧ U.heap = h0) (fun _ _ _ _ _ => True) (fun _ U o U' => ∃ v L, o = .returned v ∧ Q_alGet Z ta ea z n vs i y h0 n0 v U'.heap L ∧ FrameEnd U o U' L rO10.cells rO10.slots) := by
  refine MetFree.of_bodySF pn_alGet hisR ?_
  intro p e s m args below meth c s₁ Bd hml0 hP hK
  obtain ⟨rfl, hZ, hh⟩ := hP
  have hx := Bd.exec
  have hby := Bd.bytes
  have dq := @hb _ _ hby
  have hml : c.maxLocals = 2 := hml0
  have hown : s.vm.findClass "java/util/ArrayList" = some m.cls := findClass_of_methodNamed Bd.named
  have X0 : Stand p l e rO10 s m #[(.ref ta), (.int i)] below meth c s₁ [] 0 0 := Stand.of_body Bd
  have e0 : s₁.heap = h0 := by rw [← hh, Bd.state]; rfl
  have N0 := Fr.nil n0
  show Rch p e below s₁ (entryFrame m #[(.ref ta), (.int i)] 2) (fun U o => ∃ v L, o = .returned v ∧ Q_alGet Z ta ea z n vs i y h0 n0 v U.heap L ∧ FrameEnd s o U L rO10.cells rO10.slots)
  refine Rch.cast (ef_alElem m ta i) ?_
  show Rch p e below s₁ (mkF m 0 #[vR ta, vI i] []) _
  refine R1 (XS.iloadN X0.here hx rfl (dq (dg dge 0 rfl)) rfl) ?_
  refine R1 (XS.aloadN X0.here hx rfl (dq (dg dge 1 rfl)) rfl rfl) ?_
  show Rch p e below s₁ (mkF m 2 #[vR ta, vI i] [(.ref ta), (.int i)]) _
  obtain ⟨T55, X55, e55, st55⟩ := getF X0 hx hZ hown (host := "") (Or.inl (wq hw 62 rfl)) Via.refl e0 A.2.2.1 (g := (mkF m 2 #[vR ta, vI i] [(.ref ta), (.int i)])) rfl rfl (dq (dg dge 2 rfl))
  refine R0_ st55 ?_
  show Rch p e below T55 (mkF m 5 #[vR ta, vI i] [(.int n), (.int i)]) _
  obtain ⟨_, _, ⟨T56, L56, k56, n56⟩, -, X56, ⟨Lc56, hQ56, l56, y56, z56⟩, st56⟩ := Jvm.LawKit.callS X55 hx (y := mN11) hown (mw hZ hw 124 rfl) (mw hZ hw 125 rfl) (mw hZ hw 126 rfl) (mw hZ hw 127 rfl) (by decide) (backOf (W := 0) (rm_ochk l Z a0 hw [] i n h0 n0 Z0 hi.1 hin) hZ (wq hw 127 rfl) (wq hw 126 rfl) (by decide) (by decide)) (g := (mkF m 5 #[vR ta, vI i] [(.int n), (.int i)])) rfl (by rw [hml]; rfl) (argsL := [(.int i), (.int n)]) (rest := []) (lenOf pd_1 rfl) rfl (w0 rfl) (dq (dg dge 3 rfl)) (fun _ _ => ⟨rfl, e55, (by decide : 0 + 0 ≤ _), (by decide : 0 + 0 ≤ _)⟩)
  dsimp only [Pt.U, Pt.locs, Pt.cells, Pt.slots] at X56 l56 y56 z56 st56 hQ56
  subst l56 y56 z56
  obtain ⟨rfl, Nq56, e56⟩ := hQ56
  have N56 := Fr.app N0 Nq56
  refine R0_ st56 ?_
  show Rch p e below T56 (mkF m 8 #[vR ta, vI i] [(.int i)]) _
  refine R1 (XT.pop X56.here hx rfl (dq (dg dge 4 rfl)) rfl rfl) ?_
  refine R1 (XS.aloadN X56.here hx rfl (dq (dg dge 5 rfl)) rfl rfl) ?_
  refine R1 (XS.iloadN X56.here hx rfl (dq (dg dge 6 rfl)) rfl) ?_
  show Rch p e below T56 (mkF m 11 #[vR ta, vI i] [(.int i), (.ref ta)]) _
  obtain ⟨cq57, kq57, q57a, q57b, q57c⟩ := isOf hZ e56 A.1
  obtain ⟨_, _, ⟨T57, L57, k57, n57⟩, -, X57, ⟨Lc57, hQ57, l57, y57, z57⟩, st57⟩ := X56.virtualBack hx (y := mN12) (z := mN12) hown (mw hZ hw 132 rfl) (mw hZ hw 133 rfl) (notFace_of_selects (args := #[]) (mw hZ hw 135 rfl)) (mw hZ hw 135 rfl) (mw hZ hw 134 rfl) (by decide) (backOf (W := 0) (rm_alElem l Z a0 hw [] ta ea z n vs i y h0 n0 Z0 A hi hv) hZ (wq hw 136 rfl) (wq hw 33 rfl) (by decide) (by decide)) q57a q57c (g := (mkF m 11 #[vR ta, vI i] [(.int i), (.ref ta)])) rfl (by rw [hml]; rfl) (Steps.refl _) (argsL := [(.int i)]) (rest := []) (lenOf pd_6 rfl) rfl (w0 rfl) (dq (dg dge 7 rfl)) (fun _ _ => ⟨rfl, e56, (by decide : 0 + 0 ≤ _), (by decide : 0 + 0 ≤ _)⟩)
  dsimp only [Pt.U, Pt.locs, Pt.cells, Pt.slots] at X57 l57 y57 z57 st57 hQ57
  subst l57 y57 z57
  obtain ⟨rfl, Nq57, e57⟩ := hQ57
  have N57 := Fr.app N56 Nq57
  refine R2 st57 ?_
  show Rch p e below T57 (mkF m 14 #[vR ta, vI i] [(.ref y)]) _
  exact Rch.fin (Q := Q_alGet Z ta ea z n vs i y h0 n0) X57 (v := some (.ref y)) (fun h => by rw [Bd.returns] at h; cases h) (BodyLoose.notSynchronized Bd) (fun fs hr => retR X57 hx Bd.returns rfl rfl (dq (dg dge 8 rfl)) hr) (by rw [e57]; exact ⟨rfl, N57, rfl⟩) (by decide) (by decide)
theorem dmn : dxs jdk_29_method_69_code [(0, .iload_n 0, 1), (1, .iload_n 1, 1), (2, .if_icmp .gt 7, 3), (5, .iload_n 0, 1), (6, .goto 4, 3), (9, .iload_n 1, 1), (10, .ireturn, 1)] = true := by decide +kernel
theorem pn_mmin : plainFor (⟨"java/lang/Math", "min", "(II)I"⟩ : MethodName) = true := by first | exact plainFor_of_name (by first | (simp [plainName, overriddenIn]; done) | decide +kernel) | exact Jvm.Free.JP.mathPlain rfl (by decide +kernel)
def Q_mmin (Z : State) (x y : Int32) (h0 : Heap) (n0 : Nat) (v : Option Value) (h : Heap) (L : List Loc) : Prop := v = some (.int y) ∧ Fr n0 L ∧ h = h0
set_option maxRecDepth 65536 in
set_option maxHeartbeats 40000000 in
theorem rm_mmin (l : Launch) (Z : State) (a0 : Array Value) (hw : ∀ d ∈ tables_1, d.before a0 Z = true) (ws : List Jvm.Cond) (x y : Int32) (h0 : Heap) (n0 : Nat) (Z0 : n0 ≤ h0.size) (hxy : ¬ x < y) :
    MetFree l mN14 (head1 (Jvm.Cond.code mN14 jdk_29_method_69_code 2 (some .int) :: ws) rO3) (fun a U => a = #[(.int x), (.int y)] ∧ Z.Warmed39 U.vm ∧ U.heap = h0) (fun _ _ _ _ _ => True) (fun _ U o U' => ∃ v L, o = .returned v ∧ Q_mmin Z x y h0 n0 v U'.heap L ∧ FrameEnd U o U' L rO3.cells rO3.slots) := by
  refine MetFree.of_bodySF pn_mmin hisR ?_
  intro p e s m args below meth c s₁ Bd hml0 hP hK
  obtain ⟨rfl, hZ, hh⟩ := hP
  have hx := Bd.exec
  have hby := Bd.bytes
  have dq := @hb _ _ hby
  have hml : c.maxLocals = 2 := hml0
  have X0 : Stand p l e rO3 s m #[(.int x), (.int y)] below meth c s₁ [] 0 0 := Stand.of_body Bd
  have e0 : s₁.heap = h0 := by rw [← hh, Bd.state]; rfl
  have N0 := Fr.nil n0
  show Rch p e below s₁ (entryFrame m #[(.int x), (.int y)] 2) (fun U o => ∃ v L, o = .returned v ∧ Q_mmin Z x y h0 n0 v U.heap L ∧ FrameEnd s o U L rO3.cells rO3.slots)
  refine Rch.cast (ef_mmax m x y) ?_
  show Rch p e below s₁ (mkF m 0 #[vI x, vI y] []) _
  refine R1 (XS.iloadN X0.here hx rfl (dq (dg dmn 0 rfl)) rfl) ?_
  refine R1 (XS.iloadN X0.here hx rfl (dq (dg dmn 1 rfl)) rfl) ?_
  show Rch p e below s₁ (mkF m 2 #[vI x, vI y] [(.int y), (.int x)]) _
  by_cases hq : y < x
  · skip
    refine R1 (XS.icmpYes X0.here hx rfl (pc0 := 2) (pc' := 9) rfl (dq (dg dmn 2 rfl)) rfl (tlt hq).2.2.1 (by decide) (by decide)) ?_
    refine R1 (XS.iloadN X0.here hx rfl (dq (dg dmn 5 rfl)) rfl) ?_
    show Rch p e below s₁ (mkF m 10 #[vI x, vI y] [(.int y)]) _
    exact Rch.fin (Q := Q_mmin Z x y h0 n0) X0 (v := some (.int y)) (fun h => by rw [Bd.returns] at h; cases h) (BodyLoose.notSynchronized Bd) (fun fs hr => retI X0 hx Bd.returns (dq (dg dmn 6 rfl)) hr) (by rw [e0]; exact ⟨rfl, N0, rfl⟩) (by decide) (by decide)
  · skip
    refine R1 (XS.icmpNo X0.here hx rfl (dq (dg dmn 2 rfl)) rfl (flt hq).2.2.1) ?_
    refine R1 (XS.iloadN X0.here hx rfl (dq (dg dmn 3 rfl)) rfl) ?_
    refine R1 (XS.goto X0.here hx rfl (pc0 := 6) (pc' := 10) rfl (dq (dg dmn 4 rfl)) (by decide) (by decide)) ?_
    show Rch p e below s₁ (mkF m 10 #[vI x, vI y] [(.int x)]) _
    obtain rfl : x = y := ge_antisymm hxy hq
    exact Rch.fin (Q := Q_mmin Z x x h0 n0) X0 (v := some (.int x)) (fun h => by rw [Bd.returns] at h; cases h) (BodyLoose.notSynchronized Bd) (fun fs hr => retI X0 hx Bd.returns (dq (dg dmn 6 rfl)) hr) (by rw [e0]; exact ⟨rfl, N0, rfl⟩) (by decide) (by decide)
theorem dc3 : dxs jdk_65_method_120_code [(0, .aload_n 2, 1), (1, .ldc 110, 2), (3, .if_acmp .ne 10, 3), (6, .iload_n 1, 1), (7, .anewarray 2, 3), (10, .goto 14, 3), (24, .astore_n 3, 1), (25, .aload_n 0, 1), (26, .iconst 0, 1), (27, .aload_n 3, 1), (28, .iconst 0, 1), (29, .aload_n 0, 1), (30, .arraylength, 1), (31, .iload_n 1, 1), (32, .invokestatic 304, 3), (35, .invokestatic 150, 3), (38, .aload_n 3, 1), (39, .areturn, 1)] = true := by decide +kernel
theorem pn_cpof3 : plainFor (⟨"java/util/Arrays", "copyOf", "([Ljava/lang/Object;ILjava/lang/Class;)[Ljava/lang/Object;"⟩ : MethodName) = true := plainFor_of_name (by first | (simp [plainName, overriddenIn]; done) | decide +kernel)
theorem ef_cpof3 (m : MethodId) (x0 : Addr) (x1 : Int32) (x2 : Addr) : entryFrame m #[(.ref x0), (.int x1), (.ref x2)] 4 = mkF m 0 #[vR x0, vI x1, vR x2, .unset] [] := by first | (simp [entryFrame, mkF, argsToLocals, Value.category]; done) | rfl
def Q_cpof3 (Z : State) (ea mr : Addr) (z n : Int32) (vs us : List Value) (h0 : Heap) (n0 : Nat) (v : Option Value) (h : Heap) (L : List Loc) : Prop := ∃ b, v = some (.ref b) ∧ Fr n0 L ∧ Ext h0 h ∧ h0.size ≤ b ∧ Oar Z h b n us
set_option maxRecDepth 65536 in
set_option maxHeartbeats 40000000 in
theorem rm_cpof3 (l : Launch) (Z : State) (a0 : Array Value) (hw : ∀ d ∈ tables_1, d.before a0 Z = true) (ws : List Jvm.Cond) (ea mr : Addr) (z n : Int32) (vs us : List Value) (h0 : Heap) (n0 : Nat) (Z0 : n0 ≤ h0.size) (A : Oar Z h0 ea z vs) (MR : Mi Z "[Ljava/lang/Object;" mr) (hn : ¬ n < 0) (hz : ¬ z < n) (h4 : n.toNatClampNeg ≤ 4) (hu : us = (List.range n.toNatClampNeg).map fun i => vs.getD i .null) (hs : ∀ v ∈ us, ∃ y, v = .ref y ∧ Exa Z h0 y "java/lang/String") :
    MetFree l mN15 (head1 (Jvm.Cond.code mN15 jdk_65_method_120_code 4 (some (.array (.object "java/lang/Object"))) :: ws) rO11) (fun a U => a = #[(.ref ea), (.int n), (.ref mr)] ∧ Z.Warmed39 U.vm ∧ U.heap = h0) (fun _ _ _ _ _ => True) (fun _ U o U' => ∃ v L, o = .returned v ∧ Q_cpof3 Z ea mr z n vs us h0 n0 v U'.heap L ∧ FrameEnd U o U' L rO11.cells rO11.slots) := by
  refine MetFree.of_bodySF pn_cpof3 hisR ?_
  intro p e s m args below meth c s₁ Bd hml0 hP hK
  obtain ⟨rfl, hZ, hh⟩ := hP
  have hx := Bd.exec
  have hby := Bd.bytes
  have dq := @hb _ _ hby
  have hml : c.maxLocals = 4 := hml0
  have hown : s.vm.findClass "java/util/Arrays" = some m.cls := findClass_of_methodNamed Bd.named
  have X0 : Stand p l e rO11 s m #[(.ref ea), (.int n), (.ref mr)] below meth c s₁ [] 0 0 := Stand.of_body Bd
  have e0 : s₁.heap = h0 := by rw [← hh, Bd.state]; rfl
  have N0 := Fr.nil n0
  show Rch p e below s₁ (entryFrame m #[(.ref ea), (.int n), (.ref mr)] 4) (fun U o => ∃ v L, o = .returned v ∧ Q_cpof3 Z ea mr z n vs us h0 n0 v U.heap L ∧ FrameEnd s o U L rO11.cells rO11.slots)
  refine Rch.cast (ef_cpof3 m ea n mr) ?_
  show Rch p e below s₁ (mkF m 0 #[vR ea, vI n, vR mr, .unset] []) _
  refine R1 (XS.aloadN X0.here hx rfl (dq (dg dc3 0 rfl)) rfl rfl) ?_
  show Rch p e below s₁ (mkF m 1 #[vR ea, vI n, vR mr, .unset] [(.ref mr)]) _
  obtain ⟨T58, X58, e58, st58⟩ := ldcK X0 hx hZ hown (wq hw 182 rfl) e0 MR (g := (mkF m 1 #[vR ea, vI n, vR mr, .unset] [(.ref mr)])) rfl (dq (dg dc3 1 rfl))
  refine R0_ st58 ?_
  show Rch p e below T58 (mkF m 3 #[vR ea, vI n, vR mr, .unset] [(.ref mr), (.ref mr)]) _
  refine R1 (XT.acmpNo X58.here hx rfl (dq (dg dc3 2 rfl)) rfl rfl rfl (acN _)) ?_
  refine R1 (XS.iloadN X58.here hx rfl (dq (dg dc3 3 rfl)) rfl) ?_
  show Rch p e below T58 (mkF m 7 #[vR ea, vI n, vR mr, .unset] [(.int n)]) _
  obtain ⟨T59, h59, c59, X59, e59, E59, A59, Q59, O59, st59⟩ := newRE X58 hx hZ hown (wq hw 183 rfl) (wq hw 84 rfl) e58 (g := (mkF m 7 #[vR ea, vI n, vR mr, .unset] [(.int n)])) rfl (dq (dg dc3 4 rfl)) rfl hn (cap := 4) h4 (by decide) (by decide) (by decide) (ad := "[Ljava/lang/Object;") (by decide)
  obtain ⟨a59, g59⟩ : ∃ z, z = h0.size := ⟨_, rfl⟩
  rw [← g59] at A59 Q59 st59
  have Ex60 : Ext h0 h59 := E59
  have le61 : h0.size ≤ a59 := Nat.le_of_eq g59.symm
  refine R0_ st59 ?_
  show Rch p e below T59 (mkF m 10 #[vR ea, vI n, vR mr, .unset] [(.ref a59)]) _
  have OA59 : Oar Z h59 a59 n [] := ⟨Q59, c59, Arv.new A59 hn, O59⟩
  refine R1 (XS.goto X59.here hx rfl (pc0 := 10) (pc' := 24) rfl (dq (dg dc3 5 rfl)) (by decide) (by decide)) ?_
  refine R1 (XS.astoreN X59.here hx rfl (dq (dg dc3 6 rfl)) rfl rfl (l' := #[vR ea, vI n, vR mr, vR a59]) rfl) ?_
  refine R1 (XS.aloadN X59.here hx rfl (dq (dg dc3 7 rfl)) rfl rfl) ?_
  refine R1 (XS.iconst X59.here hx rfl (dq (dg dc3 8 rfl)) ) ?_
  show Rch p e below T59 (mkF m 27 #[vR ea, vI n, vR mr, vR a59] [(.int (0 : Int32)), (.ref ea)]) _
  refine R1 (XS.aloadN X59.here hx rfl (dq (dg dc3 9 rfl)) rfl rfl) ?_
  refine R1 (XS.iconst X59.here hx rfl (dq (dg dc3 10 rfl)) ) ?_
  refine R1 (XS.aloadN X59.here hx rfl (dq (dg dc3 11 rfl)) rfl rfl) ?_
  show Rch p e below T59 (mkF m 30 #[vR ea, vI n, vR mr, vR a59] [(.ref ea), (.int (0 : Int32)), (.ref a59), (.int (0 : Int32)), (.ref ea)]) _
  have A2 := A.ext Ex60
  obtain ⟨kk62, M62⟩ := (A2).arh
  refine R0_ (alenA X59 hx hZ e59 M62 (g := (mkF m 30 #[vR ea, vI n, vR mr, vR a59] [(.ref ea), (.int (0 : Int32)), (.ref a59), (.int (0 : Int32)), (.ref ea)])) rfl rfl (dq (dg dc3 12 rfl))) ?_
  show Rch p e below T59 (mkF m 31 #[vR ea, vI n, vR mr, vR a59] [(.int z), (.int (0 : Int32)), (.ref a59), (.int (0 : Int32)), (.ref ea)]) _
  refine R1 (XS.iloadN X59.here hx rfl (dq (dg dc3 13 rfl)) rfl) ?_
  show Rch p e below T59 (mkF m 32 #[vR ea, vI n, vR mr, vR a59] [(.int n), (.int z), (.int (0 : Int32)), (.ref a59), (.int (0 : Int32)), (.ref ea)]) _
  obtain ⟨_, _, ⟨T63, L63, k63, n63⟩, -, X63, ⟨Lc63, hQ63, l63, y63, z63⟩, st63⟩ := Jvm.LawKit.callS X59 hx (y := mN14) hown (mw hZ hw 184 rfl) (mw hZ hw 185 rfl) (mw hZ hw 81 rfl) (mw hZ hw 186 rfl) (by decide) (backOf (W := 4) (rm_mmin l Z a0 hw [] z n h59 n0 (Nat.le_trans Z0 Ex60.1) hz) hZ (wq hw 186 rfl) (wq hw 81 rfl) (by decide) (by decide)) (g := (mkF m 32 #[vR ea, vI n, vR mr, vR a59] [(.int n), (.int z), (.int (0 : Int32)), (.ref a59), (.int (0 : Int32)), (.ref ea)])) rfl (by rw [hml]; rfl) (argsL := [(.int z), (.int n)]) (rest := [(.int (0 : Int32)), (.ref a59), (.int (0 : Int32)), (.ref ea)]) (lenOf pd_1 rfl) rfl (w0 rfl) (dq (dg dc3 14 rfl)) (fun _ _ => ⟨rfl, e59, (by decide : 1 + 0 ≤ _), (by decide : 4 + 0 ≤ _)⟩)
  dsimp only [Pt.U, Pt.locs, Pt.cells, Pt.slots] at X63 l63 y63 z63 st63 hQ63
  subst l63 y63 z63
  obtain ⟨rfl, Nq63, e63⟩ := hQ63
  have N63 := Fr.app N0 Nq63
  refine R0_ st63 ?_
  show Rch p e below T63 (mkF m 35 #[vR ea, vI n, vR mr, vR a59] [(.int n), (.int (0 : Int32)), (.ref a59), (.int (0 : Int32)), (.ref ea)]) _
  have A3 := A2
  obtain ⟨EA, ka, VA, OVA⟩ := A3
  have O3 := OA59
  obtain ⟨EB, kb, VB, OVB⟩ := O3
  have lz : n.toNatClampNeg ≤ z.toNatClampNeg := clamp_le hn hz
  have ST : StoL Z h59 a59 us := stoL OA59 us (fun v hv => by obtain ⟨y, e1, e2⟩ := hs v hv; exact ⟨y, e1, Ins.of_exa (e2.ext Ex60) (wq hw 85 rfl)⟩)
  obtain ⟨T64, h64, L64, X64, e64, N64, K64, V64, st64⟩ := cpA X63 hx hZ hown (wq hw 187 rfl) (wq hw 190 rfl) (wq hw 188 rfl) (wq hw 189 rfl) e63 VA (VB.pad (pad_rep [] .null n.toNatClampNeg)) (Or.inr ⟨rfl, rfl, ST⟩) (by decide) (by decide) hn (by show 0 + _ ≤ _; omega) (by show 0 + _ ≤ _; omega) (us := us) (sp := (0 : Int32)) (dp := (0 : Int32)) (nn := n) (by rw [hu]; simp) (by simp) N63 (Nat.le_trans Z0 le61) (g := (mkF m 35 #[vR ea, vI n, vR mr, vR a59] [(.int n), (.int (0 : Int32)), (.ref a59), (.int (0 : Int32)), (.ref ea)])) rfl (by rw [hml]; rfl) rfl (dq (dg dc3 15 rfl)) (by decide) (W := 0) (w0 rfl) (by decide)
  have Ex65 : Ext h0 h64 := extKeep1 Ex60 K64 le61
  refine R0_ st64 ?_
  show Rch p e below T64 (mkF m 38 #[vR ea, vI n, vR mr, vR a59] []) _
  refine R1 (XS.aloadN X64.here hx rfl (dq (dg dc3 16 rfl)) rfl rfl) ?_
  show Rch p e below T64 (mkF m 39 #[vR ea, vI n, vR mr, vR a59] [(.ref a59)]) _
  have OF : Oar Z h64 a59 n us := ⟨EB.keep K64, kb, by simpa [hu] using V64, OVB⟩
  exact Rch.fin (Q := Q_cpof3 Z ea mr z n vs us h0 n0) X64 (v := some (.ref a59)) (fun h => by rw [Bd.returns] at h; cases h) (BodyLoose.notSynchronized Bd) (fun fs hr => retR X64 hx Bd.returns rfl rfl (dq (dg dc3 17 rfl)) hr) (by rw [e64]; exact ⟨a59, rfl, N64, Ex65, le61, OF⟩) (by decide) (by decide)
theorem dc2 : dxs jdk_65_method_119_code [(0, .aload_n 0, 1), (1, .iload_n 1, 1), (2, .aload_n 0, 1), (3, .invokevirtual 86, 3), (6, .invokestatic 300, 3), (9, .areturn, 1)] = true := by decide +kernel
theorem pn_cpof2 : plainFor (⟨"java/util/Arrays", "copyOf", "([Ljava/lang/Object;I)[Ljava/lang/Object;"⟩ : MethodName) = true := plainFor_of_name (by first | (simp [plainName, overriddenIn]; done) | decide +kernel)
def Q_cpof2 (Z : State) (ea mr : Addr) (z n : Int32) (vs us : List Value) (h0 : Heap) (n0 : Nat) (v : Option Value) (h : Heap) (L : List Loc) : Prop := ∃ b, v = some (.ref b) ∧ Fr n0 L ∧ Ext h0 h ∧ h0.size ≤ b ∧ Oar Z h b n us
set_option maxRecDepth 65536 in
set_option maxHeartbeats 40000000 in
theorem rm_cpof2 (l : Launch) (Z : State) (a0 : Array Value) (hw : ∀ d ∈ tables_1, d.before a0 Z = true) (ws : List Jvm.Cond) (ea mr : Addr) (z n : Int32) (vs us : List Value) (h0 : Heap) (n0 : Nat) (Z0 : n0 ≤ h0.size) (A : Oar Z h0 ea z vs) (MR : Mi Z "[Ljava/lang/Object;" mr) (hn : ¬ n < 0) (hz : ¬ z < n) (h4 : n.toNatClampNeg ≤ 4) (hu : us = (List.range n.toNatClampNeg).map fun i => vs.getD i .null) (hs : ∀ v ∈ us, ∃ y, v = .ref y ∧ Exa Z h0 y "java/lang/String") :
    MetFree l mN16 (head1 (Jvm.Cond.code mN16 jdk_65_method_119_code 2 (some (.array (.object "java/lang/Object"))) :: ws) rO12) (fun a U => a = #[(.ref ea), (.int n)] ∧ Z.Warmed39 U.vm ∧ U.heap = h0) (fun _ _ _ _ _ => True) (fun _ U o U' => ∃ v L, o = .returned v ∧ Q_cpof2 Z ea mr z n vs us h0 n0 v U'.heap L ∧ FrameEnd U o U' L rO12.cells rO12.slots) := by
  refine MetFree.of_bodySF pn_cpof2 hisR ?_
  intro p e s m args below meth c s₁ Bd hml0 hP hK
  obtain ⟨rfl, hZ, hh⟩ := hP
  have hx := Bd.exec
  have hby := Bd.bytes
  have dq := @hb _ _ hby
  have hml : c.maxLocals = 2 := hml0
  have hown : s.vm.findClass "java/util/Arrays" = some m.cls := findClass_of_methodNamed Bd.named
  have X0 : Stand p l e rO12 s m #[(.ref ea), (.int n)] below meth c s₁ [] 0 0 := Stand.of_body Bd
  have e0 : s₁.heap = h0 := by rw [← hh, Bd.state]; rfl
  have N0 := Fr.nil n0
  show Rch p e below s₁ (entryFrame m #[(.ref ea), (.int n)] 2) (fun U o => ∃ v L, o = .returned v ∧ Q_cpof2 Z ea mr z n vs us h0 n0 v U.heap L ∧ FrameEnd s o U L rO12.cells rO12.slots)
  refine Rch.cast (ef_alElem m ea n) ?_
  show Rch p e below s₁ (mkF m 0 #[vR ea, vI n] []) _
  refine R1 (XS.aloadN X0.here hx rfl (dq (dg dc2 0 rfl)) rfl rfl) ?_
  refine R1 (XS.iloadN X0.here hx rfl (dq (dg dc2 1 rfl)) rfl) ?_
  refine R1 (XS.aloadN X0.here hx rfl (dq (dg dc2 2 rfl)) rfl rfl) ?_
  show Rch p e below s₁ (mkF m 3 #[vR ea, vI n] [(.ref ea), (.int n), (.ref ea)]) _
  obtain ⟨T66, X66, e66, st66⟩ := gclsM X0 hx hZ hown (wq hw 173 rfl) (wq hw 174 rfl) (wq hw 211 rfl) (wq hw 176 rfl) (wq hw 175 rfl) (wq hw 177 rfl) e0 (A).1 MR (g := (mkF m 3 #[vR ea, vI n] [(.ref ea), (.int n), (.ref ea)])) rfl (by rw [hml]; rfl) rfl (dq (dg dc2 3 rfl)) (by decide) (W := 2) (w0 rfl) (by decide)
  refine R0_ st66 ?_
  show Rch p e below T66 (mkF m 6 #[vR ea, vI n] [(.ref mr), (.int n), (.ref ea)]) _
  obtain ⟨_, _, ⟨T67, L67, k67, n67⟩, -, X67, ⟨Lc67, hQ67, l67, y67, z67⟩, st67⟩ := Jvm.LawKit.callS X66 hx (y := mN15) hown (mw hZ hw 179 rfl) (mw hZ hw 180 rfl) (mw hZ hw 171 rfl) (mw hZ hw 181 rfl) (by decide) (backOf (W := 0) (rm_cpof3 l Z a0 hw [] ea mr z n vs us h0 n0 Z0 A MR hn hz h4 hu hs) hZ (wq hw 181 rfl) (wq hw 171 rfl) (by decide) (by decide)) (g := (mkF m 6 #[vR ea, vI n] [(.ref mr), (.int n), (.ref ea)])) rfl (by rw [hml]; rfl) (argsL := [(.ref ea), (.int n), (.ref mr)]) (rest := []) (lenOf pd_7 rfl) rfl (w0 rfl) (dq (dg dc2 4 rfl)) (fun _ _ => ⟨rfl, e66, (by decide : 0 + 1 ≤ _), (by decide : 0 + 4 ≤ _)⟩)
  dsimp only [Pt.U, Pt.locs, Pt.cells, Pt.slots] at X67 l67 y67 z67 st67 hQ67
  subst l67 y67 z67
  obtain ⟨b67, rfl, Nq67, E67, le67_, O67⟩ := hQ67
  have N67 := Fr.app N0 Nq67
  have Ex68 : Ext h0 T67.heap := E67
  refine R0_ st67 ?_
  show Rch p e below T67 (mkF m 9 #[vR ea, vI n] [(.ref b67)]) _
  exact Rch.fin (Q := Q_cpof2 Z ea mr z n vs us h0 n0) X67 (v := some (.ref b67)) (fun h => by rw [Bd.returns] at h; cases h) (BodyLoose.notSynchronized Bd) (fun fs hr => retR X67 hx Bd.returns rfl rfl (dq (dg dc2 5 rfl)) hr) ⟨b67, rfl, N67, Ex68, le67_, O67⟩ (by decide) (by decide)
theorem dta : dxs jdk_38_method_16_code [(0, .aload_n 0, 1), (1, .getfield 9, 3), (4, .aload_n 0, 1), (5, .getfield 48, 3), (8, .invokestatic 66, 3), (11, .areturn, 1)] = true := by decide +kernel
theorem pn_toArr : plainFor (⟨"java/util/ArrayList", "toArray", "()[Ljava/lang/Object;"⟩ : MethodName) = true := plainFor_of_name (by first | (simp [plainName, overriddenIn]; done) | decide +kernel)
def Q_toArr (Z : State) (ta ea mr : Addr) (z n : Int32) (vs us : List Value) (h0 : Heap) (n0 : Nat) (v : Option Value) (h : Heap) (L : List Loc) : Prop := ∃ b, v = some (.ref b) ∧ Fr n0 L ∧ Ext h0 h ∧ h0.size ≤ b ∧ Oar Z h b n us
set_option maxRecDepth 65536 in
set_option maxHeartbeats 40000000 in
theorem rm_toArr (l : Launch) (Z : State) (a0 : Array Value) (hw : ∀ d ∈ tables_1, d.before a0 Z = true) (ws : List Jvm.Cond) (ta ea mr : Addr) (z n : Int32) (vs us : List Value) (h0 : Heap) (n0 : Nat) (Z0 : n0 ≤ h0.size) (A : Al Z h0 ta ea z n vs) (MR : Mi Z "[Ljava/lang/Object;" mr) (hn : ¬ n < 0) (hz : ¬ z < n) (h4 : n.toNatClampNeg ≤ 4) (hu : us = (List.range n.toNatClampNeg).map fun i => vs.getD i .null) (hs : ∀ v ∈ us, ∃ y, v = .ref y ∧ Exa Z h0 y "java/lang/String") :
    MetFree l mN17 (head1 (Jvm.Cond.code mN17 jdk_38_method_16_code 1 (some (.array (.object "java/lang/Object"))) :: ws) rO13) (fun a U => a = #[(.ref ta)] ∧ Z.Warmed39 U.vm ∧ U.heap = h0) (fun _ _ _ _ _ => True) (fun _ U o U' => ∃ v L, o = .returned v ∧ Q_toArr Z ta ea mr z n vs us h0 n0 v U'.heap L ∧ FrameEnd U o U' L rO13.cells rO13.slots) := by
  refine MetFree.of_bodySF pn_toArr hisR ?_
  intro p e s m args below meth c s₁ Bd hml0 hP hK
  obtain ⟨rfl, hZ, hh⟩ := hP
  have hx := Bd.exec
  have hby := Bd.bytes
  have dq := @hb _ _ hby
  have hml : c.maxLocals = 1 := hml0
  have hown : s.vm.findClass "java/util/ArrayList" = some m.cls := findClass_of_methodNamed Bd.named
  have X0 : Stand p l e rO13 s m #[(.ref ta)] below meth c s₁ [] 0 0 := Stand.of_body Bd
  have e0 : s₁.heap = h0 := by rw [← hh, Bd.state]; rfl
  have N0 := Fr.nil n0
  show Rch p e below s₁ (entryFrame m #[(.ref ta)] 1) (fun U o => ∃ v L, o = .returned v ∧ Q_toArr Z ta ea mr z n vs us h0 n0 v U.heap L ∧ FrameEnd s o U L rO13.cells rO13.slots)
  refine Rch.cast (ef_acInit m ta) ?_
  show Rch p e below s₁ (mkF m 0 #[vR ta] []) _
  refine R1 (XS.aloadN X0.here hx rfl (dq (dg dta 0 rfl)) rfl rfl) ?_
  show Rch p e below s₁ (mkF m 1 #[vR ta] [(.ref ta)]) _
  obtain ⟨T69, X69, e69, st69⟩ := getF X0 hx hZ hown (host := "") (Or.inl (wq hw 53 rfl)) Via.refl e0 A.2.1 (g := (mkF m 1 #[vR ta] [(.ref ta)])) rfl rfl (dq (dg dta 1 rfl))
  refine R0_ st69 ?_
  show Rch p e below T69 (mkF m 4 #[vR ta] [(.ref ea)]) _
  refine R1 (XS.aloadN X69.here hx rfl (dq (dg dta 2 rfl)) rfl rfl) ?_
  show Rch p e below T69 (mkF m 5 #[vR ta] [(.ref ta), (.ref ea)]) _
  obtain ⟨T70, X70, e70, st70⟩ := getF X69 hx hZ hown (host := "") (Or.inl (wq hw 62 rfl)) Via.refl e69 A.2.2.1 (g := (mkF m 5 #[vR ta] [(.ref ta), (.ref ea)])) rfl rfl (dq (dg dta 3 rfl))
  refine R0_ st70 ?_
  show Rch p e below T70 (mkF m 8 #[vR ta] [(.int n), (.ref ea)]) _
  obtain ⟨_, _, ⟨T71, L71, k71, n71⟩, -, X71, ⟨Lc71, hQ71, l71, y71, z71⟩, st71⟩ := Jvm.LawKit.callS X70 hx (y := mN16) hown (mw hZ hw 169 rfl) (mw hZ hw 170 rfl) (mw hZ hw 171 rfl) (mw hZ hw 172 rfl) (by decide) (backOf (W := 0) (rm_cpof2 l Z a0 hw [] ea mr z n vs us h0 n0 Z0 A.2.2.2.2 MR hn hz h4 hu hs) hZ (wq hw 172 rfl) (wq hw 171 rfl) (by decide) (by decide)) (g := (mkF m 8 #[vR ta] [(.int n), (.ref ea)])) rfl (by rw [hml]; rfl) (argsL := [(.ref ea), (.int n)]) (rest := []) (lenOf pd_8 rfl) rfl (w0 rfl) (dq (dg dta 4 rfl)) (fun _ _ => ⟨rfl, e70, (by decide : 0 + 1 ≤ _), (by decide : 0 + 4 ≤ _)⟩)
  dsimp only [Pt.U, Pt.locs, Pt.cells, Pt.slots] at X71 l71 y71 z71 st71 hQ71
  subst l71 y71 z71
  obtain ⟨b71, rfl, Nq71, E71, le71_, O71⟩ := hQ71
  have N71 := Fr.app N0 Nq71
  have Ex72 : Ext h0 T71.heap := E71
  refine R0_ st71 ?_
  show Rch p e below T71 (mkF m 11 #[vR ta] [(.ref b71)]) _
  exact Rch.fin (Q := Q_toArr Z ta ea mr z n vs us h0 n0) X71 (v := some (.ref b71)) (fun h => by rw [Bd.returns] at h; cases h) (BodyLoose.notSynchronized Bd) (fun fs hr => retR X71 hx Bd.returns rfl rfl (dq (dg dta 5 rfl)) hr) ⟨b71, rfl, N71, Ex72, le71_, O71⟩ (by decide) (by decide)
theorem al_kpA {Z : State} {h h' : Heap} {a ea : Addr} {z n : Int32} {vs vs2 : List Value} (A : Al Z h a ea z n vs) (K : Keep h h' [ea]) (O : Oar Z h' ea z vs2) : Al Z h' a ea z n vs2 := by
  have ne : a ∉ [ea] := ninS A.ne nin0
  obtain ⟨q1, q2, q3, ⟨mc, q4⟩, q5⟩ := A
  exact ⟨q1.keep K, q2.keep K ne, q3.keep K ne, ⟨mc, q4.keep K ne⟩, O⟩
theorem dan : dxs jdk_38_method_1_code [(0, .aload_n 0, 1), (1, .invokespecial 1, 3), (4, .iload_n 1, 1), (5, .ifCond .le 14, 3), (8, .aload_n 0, 1), (9, .iload_n 1, 1), (10, .anewarray 7, 3), (13, .putfield 9, 3), (16, .goto 44, 3), (60, .return_, 1)] = true := by decide +kernel
theorem pn_alInitN : plainFor (⟨"java/util/ArrayList", "<init>", "(I)V"⟩ : MethodName) = true := plainFor_of_name (by first | (simp [plainName, overriddenIn]; done) | decide +kernel)
def Q_alInitN (Z : State) (ta : Addr) (n : Int32) (v1 : Value) (h0 : Heap) (n0 : Nat) (v : Option Value) (h : Heap) (L : List Loc) : Prop := ∃ ea, v = none ∧ Fr n0 L ∧ Keep h0 h [ta] ∧ h0.size ≤ ea ∧ Al Z h ta ea n 0 []
set_option maxRecDepth 65536 in
set_option maxHeartbeats 40000000 in
theorem rm_alInitN (l : Launch) (Z : State) (a0 : Array Value) (hw : ∀ d ∈ tables_1, d.before a0 Z = true) (ws : List Jvm.Cond) (ta : Addr) (n : Int32) (v1 : Value) (h0 : Heap) (n0 : Nat) (Z0 : n0 ≤ h0.size) (hthis : n0 ≤ ta) (E1 : Exa Z h0 ta "java/util/ArrayList") (F1 : Fld Z h0 ta "java/util/ArrayList" "elementData" "[Ljava/lang/Object;" v1) (F2 : Fld Z h0 ta "java/util/ArrayList" "size" "I" (.int 0)) (F3 : Fld Z h0 ta "java/util/AbstractList" "modCount" "I" (.int 0)) (hn : ¬ n < 0) (hpos : 0 < n) (h4 : n.toNatClampNeg ≤ 4) :
    MetFree l mN18 (head1 (Jvm.Cond.code mN18 jdk_38_method_1_code 2 none :: ws) rO14) (fun a U => a = #[(.ref ta), (.int n)] ∧ Z.Warmed39 U.vm ∧ U.heap = h0) (fun _ _ _ _ _ => True) (fun _ U o U' => ∃ v L, o = .returned v ∧ Q_alInitN Z ta n v1 h0 n0 v U'.heap L ∧ FrameEnd U o U' L rO14.cells rO14.slots) := by
  refine MetFree.of_bodySF pn_alInitN hisR ?_
  intro p e s m args below meth c s₁ Bd hml0 hP hK
  obtain ⟨rfl, hZ, hh⟩ := hP
  have hx := Bd.exec
  have hby := Bd.bytes
  have dq := @hb _ _ hby
  have hml : c.maxLocals = 2 := hml0
  have hown : s.vm.findClass "java/util/ArrayList" = some m.cls := findClass_of_methodNamed Bd.named
  have X0 : Stand p l e rO14 s m #[(.ref ta), (.int n)] below meth c s₁ [] 0 0 := Stand.of_body Bd
  have e0 : s₁.heap = h0 := by rw [← hh, Bd.state]; rfl
  have N0 := Fr.nil n0
  show Rch p e below s₁ (entryFrame m #[(.ref ta), (.int n)] 2) (fun U o => ∃ v L, o = .returned v ∧ Q_alInitN Z ta n v1 h0 n0 v U.heap L ∧ FrameEnd s o U L rO14.cells rO14.slots)
  refine Rch.cast (ef_alElem m ta n) ?_
  show Rch p e below s₁ (mkF m 0 #[vR ta, vI n] []) _
  refine R1 (XS.aloadN X0.here hx rfl (dq (dg dan 0 rfl)) rfl rfl) ?_
  show Rch p e below s₁ (mkF m 1 #[vR ta, vI n] [(.ref ta)]) _
  obtain ⟨_, _, ⟨T73, L73, k73, n73⟩, -, X73, ⟨Lc73, hQ73, l73, y73, z73⟩, st73⟩ := X0.specialBack hx (y := mN1) rfl hown (mw hZ hw 37 rfl) (mw hZ hw 38 rfl) (mw hZ hw 42 rfl) (by decide) (backOf (W := 0) (rm_abInit l Z a0 hw [] ta v1 (.int 0) (.int 0) h0 n0 Z0 hthis E1 F1 F2 F3) hZ (wq hw 42 rfl) (wq hw 41 rfl) (by decide) (by decide)) (g := (mkF m 1 #[vR ta, vI n] [(.ref ta)])) rfl (by rw [hml]; rfl) (Steps.refl _) (a := ta) (argsL := []) (rest := []) (lenOf pd_0 rfl) rfl (w0 rfl) (dq (dg dan 1 rfl)) (fun _ _ => ⟨rfl, e0, (by decide : 0 + 0 ≤ _), (by decide : 0 + 0 ≤ _)⟩)
  dsimp only [Pt.U, Pt.locs, Pt.cells, Pt.slots] at X73 l73 y73 z73 st73 hQ73
  subst l73 y73 z73
  obtain ⟨rfl, Nq73, K73, E73, FE73, FS73, FM73⟩ := hQ73
  have N73 := Fr.app N0 Nq73
  have KK74 : Keep h0 T73.heap [ta] := (Keep.refl _ _).trans K73 (allS (Or.inl (by simp)) all0)
  refine R2 st73 ?_
  show Rch p e below T73 (mkF m 4 #[vR ta, vI n] []) _
  have z0 : h0.size ≤ T73.heap.size := KK74.1
  refine R1 (XS.iloadN X73.here hx rfl (dq (dg dan 2 rfl)) rfl) ?_
  refine R1 (XS.ifNo X73.here hx rfl (dq (dg dan 3 rfl)) rfl ((if0 _ _).trans (tlt hpos).2.2.2)) ?_
  refine R1 (XS.aloadN X73.here hx rfl (dq (dg dan 4 rfl)) rfl rfl) ?_
  refine R1 (XS.iloadN X73.here hx rfl (dq (dg dan 5 rfl)) rfl) ?_
  show Rch p e below T73 (mkF m 10 #[vR ta, vI n] [(.int n), (.ref ta)]) _
  obtain ⟨T75, h75, c75, X75, e75, E75, A75, Q75, O75, st75⟩ := newRE X73 hx hZ hown (wq hw 83 rfl) (wq hw 84 rfl) rfl (g := (mkF m 10 #[vR ta, vI n] [(.int n), (.ref ta)])) rfl (dq (dg dan 6 rfl)) rfl hn (cap := 4) h4 (by decide) (by decide) (by decide) (ad := "[Ljava/lang/Object;") (by decide)
  obtain ⟨a75, g75⟩ : ∃ z, z = T73.heap.size := ⟨_, rfl⟩
  rw [← g75] at A75 Q75 st75
  have Ex76 : Ext T73.heap h75 := E75
  have KK77 : Keep h0 h75 [ta] := KK74.ext E75
  have le78 : T73.heap.size ≤ a75 := Nat.le_of_eq g75.symm
  refine R0_ st75 ?_
  show Rch p e below T75 (mkF m 13 #[vR ta, vI n] [(.ref a75), (.ref ta)]) _
  have OA75 : Oar Z h75 a75 n [] := ⟨Q75, c75, Arv.new A75 hn, O75⟩
  have le0 : h0.size ≤ a75 := Nat.le_trans z0 le78
  obtain ⟨T79, h79, X79, e79, W79, st79⟩ := putF X75 hx hZ hown (host := "") (Or.inl (wq hw 53 rfl)) Via.refl e75 (FE73.ext Ex76) (E73.ext Ex76) (Or.inl (wq hw 54 rfl)) (wq hw 32 rfl) (ty := (.array (.object "java/lang/Object"))) (by decide) rfl rfl (g := (mkF m 13 #[vR ta, vI n] [(.ref a75), (.ref ta)])) rfl rfl (dq (dg dan 7 rfl))
  have KK80 : Keep h0 h79 [ta] := KK77.wr W79 (Or.inl (by simp))
  have N79 := Fr.snoc X79 N73 hthis
  refine R0_ st79 ?_
  show Rch p e below T79 (mkF m 16 #[vR ta, vI n] []) _
  refine R1 (XS.goto X79.here hx rfl (pc0 := 16) (pc' := 60) rfl (dq (dg dan 8 rfl)) (by decide) (by decide)) ?_
  show Rch p e below T79 (mkF m 60 #[vR ta, vI n] []) _
  exact Rch.fin (Q := Q_alInitN Z ta n v1 h0 n0) X79 (v := none) (fun _ => rfl) (BodyLoose.notSynchronized Bd) (fun fs hr => X79.returnOut hx Bd.returns (dq (dg dan 9 rfl)) hr) (by rw [e79]; exact ⟨a75, rfl, N79, KK80, le0, (E73.ext Ex76).wr W79, (FE73.ext Ex76).same W79, (FS73.ext Ex76).other W79 (Or.inr (Ne.symm (al_es hw))), ⟨_, (FM73.ext Ex76).other W79 (Or.inr (Ne.symm (al_em hw)))⟩, OA75.other W79 (Ne.symm ((E73.ext Ex76).ne OA75.1 (by decide)))⟩) (by decide) (by decide)
theorem daa : dxs jdk_38_method_41_code [(0, .aload_n 1, 1), (1, .invokeinterface 42 1, 5), (6, .astore_n 2, 1), (7, .aload_n 0, 1), (8, .dup, 1), (9, .getfield 63, 3), (12, .iconst 1, 1), (13, .iadd, 1), (14, .putfield 63, 3), (17, .aload_n 2, 1), (18, .arraylength, 1), (19, .istore_n 3, 1), (20, .iload_n 3, 1), (21, .ifCond .ne 5, 3), (26, .iload_n 3, 1), (27, .aload_n 0, 1), (28, .getfield 9, 3), (31, .dup, 1), (32, .astore 4, 2), (34, .arraylength, 1), (35, .aload_n 0, 1), (36, .getfield 48, 3), (39, .dup, 1), (40, .istore 5, 2), (42, .isub, 1), (43, .if_icmp .le 13, 3), (56, .aload_n 2, 1), (57, .iconst 0, 1), (58, .aload 4, 2), (60, .iload 5, 2), (62, .iload_n 3, 1), (63, .invokestatic 112, 3), (66, .aload_n 0, 1), (67, .iload 5, 2), (69, .iload_n 3, 1), (70, .iadd, 1), (71, .putfield 48, 3), (74, .iconst 1, 1), (75, .ireturn, 1)] = true := by decide +kernel
theorem pn_addAll : plainFor (⟨"java/util/ArrayList", "addAll", "(Ljava/util/Collection;)Z"⟩ : MethodName) = true := plainFor_of_name (by first | (simp [plainName, overriddenIn]; done) | decide +kernel)
theorem ef_addAll (m : MethodId) (x0 : Addr) (x1 : Addr) : entryFrame m #[(.ref x0), (.ref x1)] 6 = mkF m 0 #[vR x0, vR x1, .unset, .unset, .unset, .unset] [] := by first | (simp [entryFrame, mkF, argsToLocals, Value.category]; done) | rfl
def Q_addAll (Z : State) (ta ea tb eb mr : Addr) (z m1 zb nb : Int32) (vs vb us : List Value) (h0 : Heap) (n0 : Nat) (v : Option Value) (h : Heap) (L : List Loc) : Prop := v = some (.int 1) ∧ Fr n0 L ∧ Keep h0 h [ta, ea] ∧ Al Z h ta ea z (m1 + nb) (vs ++ us)
set_option maxRecDepth 65536 in
set_option maxHeartbeats 40000000 in
theorem rm_addAll (l : Launch) (Z : State) (a0 : Array Value) (hw : ∀ d ∈ tables_1, d.before a0 Z = true) (ws : List Jvm.Cond) (ta ea tb eb mr : Addr) (z m1 zb nb : Int32) (vs vb us : List Value) (h0 : Heap) (n0 : Nat) (Z0 : n0 ≤ h0.size) (hthis : n0 ≤ ta) (hea : n0 ≤ ea) (A : Al Z h0 ta ea z m1 vs) (B : Al Z h0 tb eb zb nb vb) (MR : Mi Z "[Ljava/lang/Object;" mr) (hn : ¬ nb < 0) (hz : ¬ zb < nb) (h4 : nb.toNatClampNeg ≤ 4) (hu : us = (List.range nb.toNatClampNeg).map fun i => vb.getD i .null) (hs : ∀ v ∈ us, ∃ y, v = .ref y ∧ Exa Z h0 y "java/lang/String") (hnb : ¬ nb = 0) (hfit : ¬ z - m1 < nb) (hm : ¬ m1 < 0) (hmv : m1.toNatClampNeg = vs.length) (hcap : vs.length + nb.toNatClampNeg ≤ z.toNatClampNeg) :
    MetFree l mN19 (head1 (Jvm.Cond.code mN19 jdk_38_method_41_code 6 (some .boolean) :: ws) rO15) (fun a U => a = #[(.ref ta), (.ref tb)] ∧ Z.Warmed39 U.vm ∧ U.heap = h0) (fun _ _ _ _ _ => True) (fun _ U o U' => ∃ v L, o = .returned v ∧ Q_addAll Z ta ea tb eb mr z m1 zb nb vs vb us h0 n0 v U'.heap L ∧ FrameEnd U o U' L rO15.cells rO15.slots) := by
  refine MetFree.of_bodySF pn_addAll hisR ?_
  intro p e s m args below meth c s₁ Bd hml0 hP hK
  obtain ⟨rfl, hZ, hh⟩ := hP
  have hx := Bd.exec
  have hby := Bd.bytes
  have dq := @hb _ _ hby
  have hml : c.maxLocals = 6 := hml0
  have hown : s.vm.findClass "java/util/ArrayList" = some m.cls := findClass_of_methodNamed Bd.named
  have X0 : Stand p l e rO15 s m #[(.ref ta), (.ref tb)] below meth c s₁ [] 0 0 := Stand.of_body Bd
  have e0 : s₁.heap = h0 := by rw [← hh, Bd.state]; rfl
  have N0 := Fr.nil n0
  show Rch p e below s₁ (entryFrame m #[(.ref ta), (.ref tb)] 6) (fun U o => ∃ v L, o = .returned v ∧ Q_addAll Z ta ea tb eb mr z m1 zb nb vs vb us h0 n0 v U.heap L ∧ FrameEnd s o U L rO15.cells rO15.slots)
  refine Rch.cast (ef_addAll m ta tb) ?_
  show Rch p e below s₁ (mkF m 0 #[vR ta, vR tb, .unset, .unset, .unset, .unset] []) _
  refine R1 (XS.aloadN X0.here hx rfl (dq (dg daa 0 rfl)) rfl rfl) ?_
  show Rch p e below s₁ (mkF m 1 #[vR ta, vR tb, .unset, .unset, .unset, .unset] [(.ref tb)]) _
  obtain ⟨cq81, kq81, q81a, q81b, q81c⟩ := isOf hZ e0 B.1
  obtain ⟨_, _, ⟨T81, L81, k81, n81⟩, -, X81, ⟨Lc81, hQ81, l81, y81, z81⟩, st81⟩ := X0.interfaceBack hx (xi := mN20) (y := mN17) hown (mw hZ hw 160 rfl) (mw hZ hw 161 rfl) (mw hZ hw 162 rfl) (mw hZ hw 163 rfl) (mw hZ hw 164 rfl) (mw hZ hw 165 rfl) (mw hZ hw 166 rfl) (mw hZ hw 167 rfl) (by decide) (backOf (W := 0) (rm_toArr l Z a0 hw [] tb eb mr zb nb vb us h0 n0 Z0 B MR hn hz h4 hu hs) hZ (wq hw 168 rfl) (wq hw 33 rfl) (by decide) (by decide)) q81a q81b q81c (g := (mkF m 1 #[vR ta, vR tb, .unset, .unset, .unset, .unset] [(.ref tb)])) rfl (by rw [hml]; rfl) (Steps.refl _) (argsL := []) (rest := []) (lenOf pd_3 rfl) rfl (w0 rfl) (dq (dg daa 1 rfl)) (fun _ _ => ⟨rfl, e0, (by decide : 0 + 1 ≤ _), (by decide : 0 + 4 ≤ _)⟩)
  dsimp only [Pt.U, Pt.locs, Pt.cells, Pt.slots] at X81 l81 y81 z81 st81 hQ81
  subst l81 y81 z81
  obtain ⟨b81, rfl, Nq81, E81, le81_, O81⟩ := hQ81
  have N81 := Fr.app N0 Nq81
  have KK83 : Keep h0 T81.heap [ta, ea] := (Keep.refl _ _).ext E81
  refine R2 st81 ?_
  show Rch p e below T81 (mkF m 6 #[vR ta, vR tb, .unset, .unset, .unset, .unset] [(.ref b81)]) _
  have A_0 := A.ext E81
  have hne1 : ta ≠ b81 := fun q => absurd (exa_of A.1) (Nat.not_lt.mpr (q ▸ le81_))
  have hne2 : ea ≠ b81 := fun q => absurd (exa_of A.2.2.2.2.1) (Nat.not_lt.mpr (q ▸ le81_))
  have hs2 : ∀ v ∈ us, ∃ y, v = .ref y ∧ Exa Z T81.heap y "java/lang/String" := fun v hv => by obtain ⟨y, e1, e2⟩ := hs v hv; exact ⟨y, e1, e2.ext E81⟩
  obtain ⟨mc, Fm⟩ := A_0.2.2.2.1
  refine R1 (XS.astoreN X81.here hx rfl (dq (dg daa 2 rfl)) rfl rfl (l' := #[vR ta, vR tb, vR b81, .unset, .unset, .unset]) rfl) ?_
  refine R1 (XS.aloadN X81.here hx rfl (dq (dg daa 3 rfl)) rfl rfl) ?_
  refine R1 (XS.dup X81.here hx rfl (dq (dg daa 4 rfl)) rfl rfl) ?_
  show Rch p e below T81 (mkF m 9 #[vR ta, vR tb, vR b81, .unset, .unset, .unset] [(.ref ta), (.ref ta)]) _
  obtain ⟨T84, X84, e84, st84⟩ := getF X81 hx hZ hown (host := "") (Or.inl (wq hw 60 rfl)) (Via.of (wq hw 61 rfl)) rfl Fm (g := (mkF m 9 #[vR ta, vR tb, vR b81, .unset, .unset, .unset] [(.ref ta), (.ref ta)])) rfl rfl (dq (dg daa 5 rfl))
  refine R0_ st84 ?_
  show Rch p e below T84 (mkF m 12 #[vR ta, vR tb, vR b81, .unset, .unset, .unset] [(.int mc), (.ref ta)]) _
  refine R1 (XS.iconst X84.here hx rfl (dq (dg daa 6 rfl)) ) ?_
  refine R1 (XS.iadd X84.here hx rfl (dq (dg daa 7 rfl)) rfl) ?_
  show Rch p e below T84 (mkF m 14 #[vR ta, vR tb, vR b81, .unset, .unset, .unset] [(.int (mc + (1 : Int32))), (.ref ta)]) _
  obtain ⟨T85, h85, X85, e85, W85, st85⟩ := putF X84 hx hZ hown (host := "") (Or.inl (wq hw 60 rfl)) (Via.of (wq hw 61 rfl)) e84 Fm A_0.1 (Or.inl (wq hw 51 rfl)) (wq hw 32 rfl) (ty := .int) (by decide) rfl rfl (g := (mkF m 14 #[vR ta, vR tb, vR b81, .unset, .unset, .unset] [(.int (mc + (1 : Int32))), (.ref ta)])) rfl rfl (dq (dg daa 8 rfl))
  have KK86 : Keep h0 h85 [ta, ea] := KK83.wr W85 (Or.inl (by simp))
  have N85 := Fr.snoc X85 N81 hthis
  refine R0_ st85 ?_
  show Rch p e below T85 (mkF m 17 #[vR ta, vR tb, vR b81, .unset, .unset, .unset] []) _
  have A_1 := al_wrM hw A_0 W85
  have O_1 := O81.other W85 (Ne.symm hne1)
  refine R1 (XS.aloadN X85.here hx rfl (dq (dg daa 9 rfl)) rfl rfl) ?_
  show Rch p e below T85 (mkF m 18 #[vR ta, vR tb, vR b81, .unset, .unset, .unset] [(.ref b81)]) _
  obtain ⟨kk87, M87⟩ := (O_1).arh
  refine R0_ (alenA X85 hx hZ e85 M87 (g := (mkF m 18 #[vR ta, vR tb, vR b81, .unset, .unset, .unset] [(.ref b81)])) rfl rfl (dq (dg daa 10 rfl))) ?_
  show Rch p e below T85 (mkF m 19 #[vR ta, vR tb, vR b81, .unset, .unset, .unset] [(.int nb)]) _
  refine R1 (XS.istoreN X85.here hx rfl (dq (dg daa 11 rfl)) rfl (l' := #[vR ta, vR tb, vR b81, vI nb, .unset, .unset]) rfl) ?_
  refine R1 (XS.iloadN X85.here hx rfl (dq (dg daa 12 rfl)) rfl) ?_
  refine R1 (XS.ifYes X85.here hx rfl (pc0 := 21) (pc' := 26) rfl (dq (dg daa 13 rfl)) rfl ((if0 _ _).trans (feq hnb).2) (by decide) (by decide)) ?_
  refine R1 (XS.iloadN X85.here hx rfl (dq (dg daa 14 rfl)) rfl) ?_
  show Rch p e below T85 (mkF m 27 #[vR ta, vR tb, vR b81, vI nb, .unset, .unset] [(.int nb)]) _
  refine R1 (XS.aloadN X85.here hx rfl (dq (dg daa 15 rfl)) rfl rfl) ?_
  show Rch p e below T85 (mkF m 28 #[vR ta, vR tb, vR b81, vI nb, .unset, .unset] [(.ref ta), (.int nb)]) _
  obtain ⟨T88, X88, e88, st88⟩ := getF X85 hx hZ hown (host := "") (Or.inl (wq hw 53 rfl)) Via.refl e85 A_1.2.1 (g := (mkF m 28 #[vR ta, vR tb, vR b81, vI nb, .unset, .unset] [(.ref ta), (.int nb)])) rfl rfl (dq (dg daa 16 rfl))
  refine R0_ st88 ?_
  show Rch p e below T88 (mkF m 31 #[vR ta, vR tb, vR b81, vI nb, .unset, .unset] [(.ref ea), (.int nb)]) _
  refine R1 (XS.dup X88.here hx rfl (dq (dg daa 17 rfl)) rfl rfl) ?_
  refine R1 (XS.astore X88.here hx rfl (dq (dg daa 18 rfl)) rfl rfl (l' := #[vR ta, vR tb, vR b81, vI nb, vR ea, .unset]) rfl) ?_
  show Rch p e below T88 (mkF m 34 #[vR ta, vR tb, vR b81, vI nb, vR ea, .unset] [(.ref ea), (.int nb)]) _
  obtain ⟨kk89, M89⟩ := (A_1.2.2.2.2).arh
  refine R0_ (alenA X88 hx hZ e88 M89 (g := (mkF m 34 #[vR ta, vR tb, vR b81, vI nb, vR ea, .unset] [(.ref ea), (.int nb)])) rfl rfl (dq (dg daa 19 rfl))) ?_
  show Rch p e below T88 (mkF m 35 #[vR ta, vR tb, vR b81, vI nb, vR ea, .unset] [(.int z), (.int nb)]) _
  refine R1 (XS.aloadN X88.here hx rfl (dq (dg daa 20 rfl)) rfl rfl) ?_
  show Rch p e below T88 (mkF m 36 #[vR ta, vR tb, vR b81, vI nb, vR ea, .unset] [(.ref ta), (.int z), (.int nb)]) _
  obtain ⟨T90, X90, e90, st90⟩ := getF X88 hx hZ hown (host := "") (Or.inl (wq hw 62 rfl)) Via.refl e88 A_1.2.2.1 (g := (mkF m 36 #[vR ta, vR tb, vR b81, vI nb, vR ea, .unset] [(.ref ta), (.int z), (.int nb)])) rfl rfl (dq (dg daa 21 rfl))
  refine R0_ st90 ?_
  show Rch p e below T90 (mkF m 39 #[vR ta, vR tb, vR b81, vI nb, vR ea, .unset] [(.int m1), (.int z), (.int nb)]) _
  refine R1 (XS.dup X90.here hx rfl (dq (dg daa 22 rfl)) rfl rfl) ?_
  refine R1 (XS.istore X90.here hx rfl (dq (dg daa 23 rfl)) rfl (l' := #[vR ta, vR tb, vR b81, vI nb, vR ea, vI m1]) rfl) ?_
  refine R1 (XS.isub X90.here hx rfl (dq (dg daa 24 rfl)) rfl) ?_
  refine R1 (XS.icmpYes X90.here hx rfl (pc0 := 43) (pc' := 56) rfl (dq (dg daa 25 rfl)) rfl (flt hfit).2.2.2 (by decide) (by decide)) ?_
  show Rch p e below T90 (mkF m 56 #[vR ta, vR tb, vR b81, vI nb, vR ea, vI m1] []) _
  refine R1 (XS.aloadN X90.here hx rfl (dq (dg daa 26 rfl)) rfl rfl) ?_
  refine R1 (XS.iconst X90.here hx rfl (dq (dg daa 27 rfl)) ) ?_
  refine R1 (XS.aload X90.here hx rfl (dq (dg daa 28 rfl)) rfl rfl) ?_
  refine R1 (XS.iload X90.here hx rfl (dq (dg daa 29 rfl)) rfl) ?_
  show Rch p e below T90 (mkF m 62 #[vR ta, vR tb, vR b81, vI nb, vR ea, vI m1] [(.int m1), (.ref ea), (.int (0 : Int32)), (.ref b81)]) _
  refine R1 (XS.iloadN X90.here hx rfl (dq (dg daa 30 rfl)) rfl) ?_
  show Rch p e below T90 (mkF m 63 #[vR ta, vR tb, vR b81, vI nb, vR ea, vI m1] [(.int nb), (.int m1), (.ref ea), (.int (0 : Int32)), (.ref b81)]) _
  have A_2 := A_1.2.2.2.2
  obtain ⟨EA, ka, VA, OVA⟩ := A_2
  have O_2 := O_1
  obtain ⟨EB, kb, VB, OVB⟩ := O_2
  have ul : us.length = nb.toNatClampNeg := by rw [hu]; simp
  have ST : StoL Z h85 ea us := stoL A_1.2.2.2.2 us (fun v hv => by obtain ⟨y, e1, e2⟩ := hs2 v hv; exact ⟨y, e1, Ins.of_exa (e2.wr W85) (wq hw 85 rfl)⟩)
  obtain ⟨T91, h91, L91, X91, e91, N91, K91, V91, st91⟩ := cpA X90 hx hZ hown (wq hw 191 rfl) (wq hw 190 rfl) (wq hw 188 rfl) (wq hw 189 rfl) e90 VB (VA.pad (pad_rep vs .null nb.toNatClampNeg)) (Or.inr ⟨rfl, rfl, ST⟩) (by decide) hm hn (by show 0 + _ ≤ _; omega) (by rw [hmv]; exact hcap) (us := us) (sp := (0 : Int32)) (dp := m1) (nn := nb) (range_self ul) (by rw [hmv]; simp) N85 hea (g := (mkF m 63 #[vR ta, vR tb, vR b81, vI nb, vR ea, vI m1] [(.int nb), (.int m1), (.ref ea), (.int (0 : Int32)), (.ref b81)])) rfl (by rw [hml]; rfl) rfl (dq (dg daa 31 rfl)) (by decide) (W := 0) (w0 rfl) (by decide)
  have KK92 : Keep h0 h91 [ta, ea] := KK86.trans K91 (allS (Or.inl (by simp)) all0)
  refine R0_ st91 ?_
  show Rch p e below T91 (mkF m 66 #[vR ta, vR tb, vR b81, vI nb, vR ea, vI m1] []) _
  have OF : Oar Z h91 ea z (vs ++ us) := ⟨EA.keep K91, ka, by rw [hmv] at V91; simpa using V91, OVA⟩
  have A_3 := al_kpA A_1 K91 OF
  refine R1 (XS.aloadN X91.here hx rfl (dq (dg daa 32 rfl)) rfl rfl) ?_
  refine R1 (XS.iload X91.here hx rfl (dq (dg daa 33 rfl)) rfl) ?_
  refine R1 (XS.iloadN X91.here hx rfl (dq (dg daa 34 rfl)) rfl) ?_
  refine R1 (XS.iadd X91.here hx rfl (dq (dg daa 35 rfl)) rfl) ?_
  show Rch p e below T91 (mkF m 71 #[vR ta, vR tb, vR b81, vI nb, vR ea, vI m1] [(.int (m1 + nb)), (.ref ta)]) _
  obtain ⟨T93, h93, X93, e93, W93, st93⟩ := putF X91 hx hZ hown (host := "") (Or.inl (wq hw 62 rfl)) Via.refl e91 A_3.2.2.1 A_3.1 (Or.inl (wq hw 63 rfl)) (wq hw 32 rfl) (ty := .int) (by decide) rfl rfl (g := (mkF m 71 #[vR ta, vR tb, vR b81, vI nb, vR ea, vI m1] [(.int (m1 + nb)), (.ref ta)])) rfl rfl (dq (dg daa 36 rfl))
  have KK94 : Keep h0 h93 [ta, ea] := KK92.wr W93 (Or.inl (by simp))
  have N93 := Fr.snoc X93 N91 hthis
  refine R0_ st93 ?_
  show Rch p e below T93 (mkF m 74 #[vR ta, vR tb, vR b81, vI nb, vR ea, vI m1] []) _
  refine R1 (XS.iconst X93.here hx rfl (dq (dg daa 37 rfl)) ) ?_
  show Rch p e below T93 (mkF m 75 #[vR ta, vR tb, vR b81, vI nb, vR ea, vI m1] [(.int (1 : Int32))]) _
  exact Rch.fin (Q := Q_addAll Z ta ea tb eb mr z m1 zb nb vs vb us h0 n0) X93 (v := some (.int (1 : Int32))) (fun h => by rw [Bd.returns] at h; cases h) (BodyLoose.notSynchronized Bd) (fun fs hr => retN X93 hx (t := .boolean) Bd.returns (by simp) (dq (dg daa 38 rfl)) hr) (by rw [e93]; exact ⟨rfl, N93, KK94, al_wrS hw A_3 W93⟩) (by decide) (by decide)
theorem dic : dxs jdk_47_method_1_code [(0, .aload_n 0, 1), (1, .invokespecial 1, 3), (4, .return_, 1)] = true := by decide +kernel
theorem pn_aicInit : plainFor (⟨"java/util/ImmutableCollections$AbstractImmutableCollection", "<init>", "()V"⟩ : MethodName) = true := plainFor_of_name (by first | (simp [plainName, overriddenIn]; done) | decide +kernel)
def Q_aicInit (Z : State) (ta : Addr) (h0 : Heap) (n0 : Nat) (v : Option Value) (h : Heap) (L : List Loc) : Prop := v = none ∧ Fr n0 L ∧ h = h0
set_option maxRecDepth 65536 in
set_option maxHeartbeats 40000000 in
theorem rm_aicInit (l : Launch) (Z : State) (a0 : Array Value) (hw : ∀ d ∈ tables_1, d.before a0 Z = true) (ws : List Jvm.Cond) (ta : Addr) (h0 : Heap) (n0 : Nat) (Z0 : n0 ≤ h0.size) :
    MetFree l mN21 (head1 (Jvm.Cond.code mN21 jdk_47_method_1_code 1 none :: ws) rO1) (fun a U => a = #[(.ref ta)] ∧ Z.Warmed39 U.vm ∧ U.heap = h0) (fun _ _ _ _ _ => True) (fun _ U o U' => ∃ v L, o = .returned v ∧ Q_aicInit Z ta h0 n0 v U'.heap L ∧ FrameEnd U o U' L rO1.cells rO1.slots) := by
  refine MetFree.of_bodySF pn_aicInit hisR ?_
  intro p e s m args below meth c s₁ Bd hml0 hP hK
  obtain ⟨rfl, hZ, hh⟩ := hP
  have hx := Bd.exec
  have hby := Bd.bytes
  have dq := @hb _ _ hby
  have hml : c.maxLocals = 1 := hml0
  have hown : s.vm.findClass "java/util/ImmutableCollections$AbstractImmutableCollection" = some m.cls := findClass_of_methodNamed Bd.named
  have X0 : Stand p l e rO1 s m #[(.ref ta)] below meth c s₁ [] 0 0 := Stand.of_body Bd
  have e0 : s₁.heap = h0 := by rw [← hh, Bd.state]; rfl
  have N0 := Fr.nil n0
  show Rch p e below s₁ (entryFrame m #[(.ref ta)] 1) (fun U o => ∃ v L, o = .returned v ∧ Q_aicInit Z ta h0 n0 v U.heap L ∧ FrameEnd s o U L rO1.cells rO1.slots)
  refine Rch.cast (ef_acInit m ta) ?_
  show Rch p e below s₁ (mkF m 0 #[vR ta] []) _
  refine R1 (XS.aloadN X0.here hx rfl (dq (dg dic 0 rfl)) rfl rfl) ?_
  show Rch p e below s₁ (mkF m 1 #[vR ta] [(.ref ta)]) _
  obtain ⟨_, _, ⟨T95, L95, k95, n95⟩, -, X95, ⟨Lc95, hQ95, l95, y95, z95⟩, st95⟩ := X0.specialBack hx (y := mN0) rfl hown (mw hZ hw 244 rfl) (mw hZ hw 44 rfl) (mw hZ hw 48 rfl) (by decide) (backOf (W := 0) (rm_acInit l Z a0 hw [] ta h0 n0 Z0) hZ (wq hw 48 rfl) (wq hw 47 rfl) (by decide) (by decide)) (g := (mkF m 1 #[vR ta] [(.ref ta)])) rfl (by rw [hml]; rfl) (Steps.refl _) (a := ta) (argsL := []) (rest := []) (lenOf pd_0 rfl) rfl (w0 rfl) (dq (dg dic 1 rfl)) (fun _ _ => ⟨rfl, e0, (by decide : 0 + 0 ≤ _), (by decide : 0 + 0 ≤ _)⟩)
  dsimp only [Pt.U, Pt.locs, Pt.cells, Pt.slots] at X95 l95 y95 z95 st95 hQ95
  subst l95 y95 z95
  obtain ⟨rfl, Nq95, e95⟩ := hQ95
  have N95 := Fr.app N0 Nq95
  refine R2 st95 ?_
  show Rch p e below T95 (mkF m 4 #[vR ta] []) _
  exact Rch.fin (Q := Q_aicInit Z ta h0 n0) X95 (v := none) (fun _ => rfl) (BodyLoose.notSynchronized Bd) (fun fs hr => X95.returnOut hx Bd.returns (dq (dg dic 2 rfl)) hr) (by rw [e95]; exact ⟨rfl, N95, rfl⟩) (by decide) (by decide)
theorem dil : dxs jdk_46_method_1_code [(0, .aload_n 0, 1), (1, .invokespecial 1, 3), (4, .return_, 1)] = true := by decide +kernel
theorem pn_ailInit : plainFor (⟨"java/util/ImmutableCollections$AbstractImmutableList", "<init>", "()V"⟩ : MethodName) = true := plainFor_of_name (by first | (simp [plainName, overriddenIn]; done) | decide +kernel)
def Q_ailInit (Z : State) (ta : Addr) (h0 : Heap) (n0 : Nat) (v : Option Value) (h : Heap) (L : List Loc) : Prop := v = none ∧ Fr n0 L ∧ h = h0
set_option maxRecDepth 65536 in
set_option maxHeartbeats 40000000 in
theorem rm_ailInit (l : Launch) (Z : State) (a0 : Array Value) (hw : ∀ d ∈ tables_1, d.before a0 Z = true) (ws : List Jvm.Cond) (ta : Addr) (h0 : Heap) (n0 : Nat) (Z0 : n0 ≤ h0.size) :
    MetFree l mN22 (head1 (Jvm.Cond.code mN22 jdk_46_method_1_code 1 none :: ws) rO2) (fun a U => a = #[(.ref ta)] ∧ Z.Warmed39 U.vm ∧ U.heap = h0) (fun _ _ _ _ _ => True) (fun _ U o U' => ∃ v L, o = .returned v ∧ Q_ailInit Z ta h0 n0 v U'.heap L ∧ FrameEnd U o U' L rO2.cells rO2.slots) := by
  refine MetFree.of_bodySF pn_ailInit hisR ?_
  intro p e s m args below meth c s₁ Bd hml0 hP hK
  obtain ⟨rfl, hZ, hh⟩ := hP
  have hx := Bd.exec
  have hby := Bd.bytes
  have dq := @hb _ _ hby
  have hml : c.maxLocals = 1 := hml0
  have hown : s.vm.findClass "java/util/ImmutableCollections$AbstractImmutableList" = some m.cls := findClass_of_methodNamed Bd.named
  have X0 : Stand p l e rO2 s m #[(.ref ta)] below meth c s₁ [] 0 0 := Stand.of_body Bd
  have e0 : s₁.heap = h0 := by rw [← hh, Bd.state]; rfl
  have N0 := Fr.nil n0
  show Rch p e below s₁ (entryFrame m #[(.ref ta)] 1) (fun U o => ∃ v L, o = .returned v ∧ Q_ailInit Z ta h0 n0 v U.heap L ∧ FrameEnd s o U L rO2.cells rO2.slots)
  refine Rch.cast (ef_acInit m ta) ?_
  show Rch p e below s₁ (mkF m 0 #[vR ta] []) _
  refine R1 (XS.aloadN X0.here hx rfl (dq (dg dil 0 rfl)) rfl rfl) ?_
  show Rch p e below s₁ (mkF m 1 #[vR ta] [(.ref ta)]) _
  obtain ⟨_, _, ⟨T96, L96, k96, n96⟩, -, X96, ⟨Lc96, hQ96, l96, y96, z96⟩, st96⟩ := X0.specialBack hx (y := mN21) rfl hown (mw hZ hw 238 rfl) (mw hZ hw 239 rfl) (mw hZ hw 243 rfl) (by decide) (backOf (W := 0) (rm_aicInit l Z a0 hw [] ta h0 n0 Z0) hZ (wq hw 243 rfl) (wq hw 242 rfl) (by decide) (by decide)) (g := (mkF m 1 #[vR ta] [(.ref ta)])) rfl (by rw [hml]; rfl) (Steps.refl _) (a := ta) (argsL := []) (rest := []) (lenOf pd_0 rfl) rfl (w0 rfl) (dq (dg dil 1 rfl)) (fun _ _ => ⟨rfl, e0, (by decide : 0 + 0 ≤ _), (by decide : 0 + 0 ≤ _)⟩)
  dsimp only [Pt.U, Pt.locs, Pt.cells, Pt.slots] at X96 l96 y96 z96 st96 hQ96
  subst l96 y96 z96
  obtain ⟨rfl, Nq96, e96⟩ := hQ96
  have N96 := Fr.app N0 Nq96
  refine R2 st96 ?_
  show Rch p e below T96 (mkF m 4 #[vR ta] []) _
  exact Rch.fin (Q := Q_ailInit Z ta h0 n0) X96 (v := none) (fun _ => rfl) (BodyLoose.notSynchronized Bd) (fun fs hr => X96.returnOut hx Bd.returns (dq (dg dil 2 rfl)) hr) (by rw [e96]; exact ⟨rfl, N96, rfl⟩) (by decide) (by decide)
theorem drn : dxs jdk_31_method_10_code [(0, .aload_n 0, 1), (1, .ifnonnull 11, 3), (12, .aload_n 0, 1), (13, .areturn, 1)] = true := by decide +kernel
theorem pn_rnn : plainFor (⟨"java/util/Objects", "requireNonNull", "(Ljava/lang/Object;)Ljava/lang/Object;"⟩ : MethodName) = true := plainFor_of_name (by first | (simp [plainName, overriddenIn]; done) | decide +kernel)
def Q_rnn (Z : State) (y : Addr) (h0 : Heap) (n0 : Nat) (v : Option Value) (h : Heap) (L : List Loc) : Prop := v = some (.ref y) ∧ Fr n0 L ∧ h = h0
set_option maxRecDepth 65536 in
set_option maxHeartbeats 40000000 in
theorem rm_rnn (l : Launch) (Z : State) (a0 : Array Value) (hw : ∀ d ∈ tables_1, d.before a0 Z = true) (ws : List Jvm.Cond) (y : Addr) (h0 : Heap) (n0 : Nat) (Z0 : n0 ≤ h0.size) :
    MetFree l mN23 (head1 (Jvm.Cond.code mN23 jdk_31_method_10_code 1 (some (.object "java/lang/Object")) :: ws) rO3) (fun a U => a = #[(.ref y)] ∧ Z.Warmed39 U.vm ∧ U.heap = h0) (fun _ _ _ _ _ => True) (fun _ U o U' => ∃ v L, o = .returned v ∧ Q_rnn Z y h0 n0 v U'.heap L ∧ FrameEnd U o U' L rO3.cells rO3.slots) := by
  refine MetFree.of_bodySF pn_rnn hisR ?_
  intro p e s m args below meth c s₁ Bd hml0 hP hK
  obtain ⟨rfl, hZ, hh⟩ := hP
  have hx := Bd.exec
  have hby := Bd.bytes
  have dq := @hb _ _ hby
  have hml : c.maxLocals = 1 := hml0
  have X0 : Stand p l e rO3 s m #[(.ref y)] below meth c s₁ [] 0 0 := Stand.of_body Bd
  have e0 : s₁.heap = h0 := by rw [← hh, Bd.state]; rfl
  have N0 := Fr.nil n0
  show Rch p e below s₁ (entryFrame m #[(.ref y)] 1) (fun U o => ∃ v L, o = .returned v ∧ Q_rnn Z y h0 n0 v U.heap L ∧ FrameEnd s o U L rO3.cells rO3.slots)
  refine Rch.cast (ef_acInit m y) ?_
  show Rch p e below s₁ (mkF m 0 #[vR y] []) _
  refine R1 (XS.aloadN X0.here hx rfl (dq (dg drn 0 rfl)) rfl rfl) ?_
  refine R1 (XT.ifnonnullYes X0.here hx rfl (pc0 := 1) (pc' := 12) rfl (dq (dg drn 1 rfl)) rfl (by decide) (by decide)) ?_
  refine R1 (XS.aloadN X0.here hx rfl (dq (dg drn 2 rfl)) rfl rfl) ?_
  show Rch p e below s₁ (mkF m 13 #[vR y] [(.ref y)]) _
  exact Rch.fin (Q := Q_rnn Z y h0 n0) X0 (v := some (.ref y)) (fun h => by rw [Bd.returns] at h; cases h) (BodyLoose.notSynchronized Bd) (fun fs hr => retR X0 hx Bd.returns rfl rfl (dq (dg drn 3 rfl)) hr) (by rw [e0]; exact ⟨rfl, N0, rfl⟩) (by decide) (by decide)
theorem l12_sl {Z : State} {a0 : Array Value} (hw : ∀ d ∈ tables_1, d.before a0 Z = true) : Jvm.RoadKit.slotOf Z "java/util/ImmutableCollections$List12" "e0" "Ljava/lang/Object;" ≠ Jvm.RoadKit.slotOf Z "java/util/ImmutableCollections$List12" "e1" "Ljava/lang/Object;" := slot_ne (C := "java/util/ImmutableCollections$List12") (Or.inr (wq hw 250 rfl)) (Or.inr (wq hw 252 rfl)) (by decide) (t := (.object "java/lang/Object")) (t' := (.object "java/lang/Object")) (by decide) (by decide)
theorem ln_sl {Z : State} {a0 : Array Value} (hw : ∀ d ∈ tables_1, d.before a0 Z = true) : Jvm.RoadKit.slotOf Z "java/util/ImmutableCollections$ListN" "elements" "[Ljava/lang/Object;" ≠ Jvm.RoadKit.slotOf Z "java/util/ImmutableCollections$ListN" "allowNulls" "Z" := slot_ne (C := "java/util/ImmutableCollections$ListN") (Or.inr (wq hw 407 rfl)) (Or.inr (wq hw 409 rfl)) (by decide) (t := (.array (.object "java/lang/Object"))) (t' := .boolean) (by decide) (by decide)
theorem dl2 : dxs jdk_44_method_2_code [(0, .aload_n 0, 1), (1, .invokespecial 1, 3), (4, .aload_n 0, 1), (5, .aload_n 1, 1), (6, .invokestatic 7, 3), (9, .putfield 13, 3), (12, .aload_n 0, 1), (13, .aload_n 2, 1), (14, .invokestatic 7, 3), (17, .putfield 24, 3), (20, .return_, 1)] = true := by decide +kernel
theorem pn_l12Init : plainFor (⟨"java/util/ImmutableCollections$List12", "<init>", "(Ljava/lang/Object;Ljava/lang/Object;)V"⟩ : MethodName) = true := plainFor_of_name (by first | (simp [plainName, overriddenIn]; done) | decide +kernel)
theorem ef_l12Init (m : MethodId) (x0 : Addr) (x1 : Addr) (x2 : Addr) : entryFrame m #[(.ref x0), (.ref x1), (.ref x2)] 3 = mkF m 0 #[vR x0, vR x1, vR x2] [] := by first | (simp [entryFrame, mkF, argsToLocals, Value.category]; done) | rfl
def Q_l12Init (Z : State) (ta x y : Addr) (h0 : Heap) (n0 : Nat) (v : Option Value) (h : Heap) (L : List Loc) : Prop := v = none ∧ Fr n0 L ∧ Keep h0 h [ta] ∧ Exa Z h ta "java/util/ImmutableCollections$List12" ∧ Fld Z h ta "java/util/ImmutableCollections$List12" "e0" "Ljava/lang/Object;" (.ref x) ∧ Fld Z h ta "java/util/ImmutableCollections$List12" "e1" "Ljava/lang/Object;" (.ref y)
set_option maxRecDepth 65536 in
set_option maxHeartbeats 40000000 in
theorem rm_l12Init (l : Launch) (Z : State) (a0 : Array Value) (hw : ∀ d ∈ tables_1, d.before a0 Z = true) (ws : List Jvm.Cond) (ta x y : Addr) (h0 : Heap) (n0 : Nat) (Z0 : n0 ≤ h0.size) (hthis : n0 ≤ ta) (E1 : Exa Z h0 ta "java/util/ImmutableCollections$List12") (F1 : Fld Z h0 ta "java/util/ImmutableCollections$List12" "e0" "Ljava/lang/Object;" .null) (F2 : Fld Z h0 ta "java/util/ImmutableCollections$List12" "e1" "Ljava/lang/Object;" .null) :
    MetFree l mN24 (head1 (Jvm.Cond.code mN24 jdk_44_method_2_code 3 none :: ws) rO16) (fun a U => a = #[(.ref ta), (.ref x), (.ref y)] ∧ Z.Warmed39 U.vm ∧ U.heap = h0) (fun _ _ _ _ _ => True) (fun _ U o U' => ∃ v L, o = .returned v ∧ Q_l12Init Z ta x y h0 n0 v U'.heap L ∧ FrameEnd U o U' L rO16.cells rO16.slots) := by
  refine MetFree.of_bodySF pn_l12Init hisR ?_
  intro p e s m args below meth c s₁ Bd hml0 hP hK
  obtain ⟨rfl, hZ, hh⟩ := hP
  have hx := Bd.exec
  have hby := Bd.bytes
  have dq := @hb _ _ hby
  have hml : c.maxLocals = 3 := hml0
  have hown : s.vm.findClass "java/util/ImmutableCollections$List12" = some m.cls := findClass_of_methodNamed Bd.named
  have hnm := (name_of_methodNamed Bd.named Bd.method).1
  have X0 : Stand p l e rO16 s m #[(.ref ta), (.ref x), (.ref y)] below meth c s₁ [] 0 0 := Stand.of_body Bd
  have e0 : s₁.heap = h0 := by rw [← hh, Bd.state]; rfl
  have N0 := Fr.nil n0
  show Rch p e below s₁ (entryFrame m #[(.ref ta), (.ref x), (.ref y)] 3) (fun U o => ∃ v L, o = .returned v ∧ Q_l12Init Z ta x y h0 n0 v U.heap L ∧ FrameEnd s o U L rO16.cells rO16.slots)
  refine Rch.cast (ef_l12Init m ta x y) ?_
  show Rch p e below s₁ (mkF m 0 #[vR ta, vR x, vR y] []) _
  refine R1 (XS.aloadN X0.here hx rfl (dq (dg dl2 0 rfl)) rfl rfl) ?_
  show Rch p e below s₁ (mkF m 1 #[vR ta, vR x, vR y] [(.ref ta)]) _
  obtain ⟨_, _, ⟨T97, L97, k97, n97⟩, -, X97, ⟨Lc97, hQ97, l97, y97, z97⟩, st97⟩ := X0.specialBack hx (y := mN22) rfl hown (mw hZ hw 232 rfl) (mw hZ hw 233 rfl) (mw hZ hw 237 rfl) (by decide) (backOf (W := 0) (rm_ailInit l Z a0 hw [] ta h0 n0 Z0) hZ (wq hw 237 rfl) (wq hw 236 rfl) (by decide) (by decide)) (g := (mkF m 1 #[vR ta, vR x, vR y] [(.ref ta)])) rfl (by rw [hml]; rfl) (Steps.refl _) (a := ta) (argsL := []) (rest := []) (lenOf pd_0 rfl) rfl (w0 rfl) (dq (dg dl2 1 rfl)) (fun _ _ => ⟨rfl, e0, (by decide : 0 + 0 ≤ _), (by decide : 0 + 0 ≤ _)⟩)
  dsimp only [Pt.U, Pt.locs, Pt.cells, Pt.slots] at X97 l97 y97 z97 st97 hQ97
  subst l97 y97 z97
  obtain ⟨rfl, Nq97, e97⟩ := hQ97
  have N97 := Fr.app N0 Nq97
  refine R2 st97 ?_
  show Rch p e below T97 (mkF m 4 #[vR ta, vR x, vR y] []) _
  refine R1 (XS.aloadN X97.here hx rfl (dq (dg dl2 2 rfl)) rfl rfl) ?_
  refine R1 (XS.aloadN X97.here hx rfl (dq (dg dl2 3 rfl)) rfl rfl) ?_
  show Rch p e below T97 (mkF m 6 #[vR ta, vR x, vR y] [(.ref x), (.ref ta)]) _
  obtain ⟨_, _, ⟨T98, L98, k98, n98⟩, -, X98, ⟨Lc98, hQ98, l98, y98, z98⟩, st98⟩ := Jvm.LawKit.callS X97 hx (y := mN23) hown (mw hZ hw 246 rfl) (mw hZ hw 247 rfl) (mw hZ hw 126 rfl) (mw hZ hw 248 rfl) (by decide) (backOf (W := 1) (rm_rnn l Z a0 hw [] x h0 n0 Z0) hZ (wq hw 248 rfl) (wq hw 126 rfl) (by decide) (by decide)) (g := (mkF m 6 #[vR ta, vR x, vR y] [(.ref x), (.ref ta)])) rfl (by rw [hml]; rfl) (argsL := [(.ref x)]) (rest := [(.ref ta)]) (lenOf pd_9 rfl) rfl (w0 rfl) (dq (dg dl2 4 rfl)) (fun _ _ => ⟨rfl, e97, (by decide : 0 + 0 ≤ _), (by decide : 0 + 0 ≤ _)⟩)
  dsimp only [Pt.U, Pt.locs, Pt.cells, Pt.slots] at X98 l98 y98 z98 st98 hQ98
  subst l98 y98 z98
  obtain ⟨rfl, Nq98, e98⟩ := hQ98
  have N98 := Fr.app N97 Nq98
  refine R0_ st98 ?_
  show Rch p e below T98 (mkF m 9 #[vR ta, vR x, vR y] [(.ref x), (.ref ta)]) _
  obtain ⟨T99, h99, X99, e99, W99, st99⟩ := putF X98 hx hZ hown (host := "") (Or.inl (wq hw 249 rfl)) Via.refl e98 F1 E1 (Or.inr ⟨(wq hw 250 rfl), rfl, hnm⟩) (wq hw 226 rfl) (ty := (.object "java/lang/Object")) (by decide) rfl rfl (g := (mkF m 9 #[vR ta, vR x, vR y] [(.ref x), (.ref ta)])) rfl rfl (dq (dg dl2 5 rfl))
  have KK100 : Keep h0 h99 [ta] := (Keep.refl _ _).wr W99 (Or.inl (by simp))
  have N99 := Fr.snoc X99 N98 hthis
  refine R0_ st99 ?_
  show Rch p e below T99 (mkF m 12 #[vR ta, vR x, vR y] []) _
  refine R1 (XS.aloadN X99.here hx rfl (dq (dg dl2 6 rfl)) rfl rfl) ?_
  refine R1 (XS.aloadN X99.here hx rfl (dq (dg dl2 7 rfl)) rfl rfl) ?_
  show Rch p e below T99 (mkF m 14 #[vR ta, vR x, vR y] [(.ref y), (.ref ta)]) _
  have z0 : h0.size ≤ h99.size := KK100.1
  obtain ⟨_, _, ⟨T101, L101, k101, n101⟩, -, X101, ⟨Lc101, hQ101, l101, y101, z101⟩, st101⟩ := Jvm.LawKit.callS X99 hx (y := mN23) hown (mw hZ hw 246 rfl) (mw hZ hw 247 rfl) (mw hZ hw 126 rfl) (mw hZ hw 248 rfl) (by decide) (backOf (W := 1) (rm_rnn l Z a0 hw [] y h99 n0 (Nat.le_trans Z0 z0)) hZ (wq hw 248 rfl) (wq hw 126 rfl) (by decide) (by decide)) (g := (mkF m 14 #[vR ta, vR x, vR y] [(.ref y), (.ref ta)])) rfl (by rw [hml]; rfl) (argsL := [(.ref y)]) (rest := [(.ref ta)]) (lenOf pd_9 rfl) rfl (w0 rfl) (dq (dg dl2 8 rfl)) (fun _ _ => ⟨rfl, e99, (by decide : 0 + 0 ≤ _), (by decide : 0 + 0 ≤ _)⟩)
  dsimp only [Pt.U, Pt.locs, Pt.cells, Pt.slots] at X101 l101 y101 z101 st101 hQ101
  subst l101 y101 z101
  obtain ⟨rfl, Nq101, e101⟩ := hQ101
  have N101 := Fr.app N99 Nq101
  refine R0_ st101 ?_
  show Rch p e below T101 (mkF m 17 #[vR ta, vR x, vR y] [(.ref y), (.ref ta)]) _
  obtain ⟨T102, h102, X102, e102, W102, st102⟩ := putF X101 hx hZ hown (host := "") (Or.inl (wq hw 251 rfl)) Via.refl e101 (F2.other W99 (Or.inr (Ne.symm (l12_sl hw)))) (E1.wr W99) (Or.inr ⟨(wq hw 252 rfl), rfl, hnm⟩) (wq hw 226 rfl) (ty := (.object "java/lang/Object")) (by decide) rfl rfl (g := (mkF m 17 #[vR ta, vR x, vR y] [(.ref y), (.ref ta)])) rfl rfl (dq (dg dl2 9 rfl))
  have KK103 : Keep h0 h102 [ta] := KK100.wr W102 (Or.inl (by simp))
  have N102 := Fr.snoc X102 N101 hthis
  refine R0_ st102 ?_
  show Rch p e below T102 (mkF m 20 #[vR ta, vR x, vR y] []) _
  exact Rch.fin (Q := Q_l12Init Z ta x y h0 n0) X102 (v := none) (fun _ => rfl) (BodyLoose.notSynchronized Bd) (fun fs hr => X102.returnOut hx Bd.returns (dq (dg dl2 10 rfl)) hr) (by rw [e102]; exact ⟨rfl, N102, KK103, (E1.wr W99).wr W102, (F1.same W99).other W102 (Or.inr (l12_sl hw)), (F2.other W99 (Or.inr (Ne.symm (l12_sl hw)))).same W102⟩) (by decide) (by decide)
theorem dln : dxs jdk_45_method_1_code [(0, .aload_n 0, 1), (1, .invokespecial 1, 3), (4, .aload_n 0, 1), (5, .aload_n 1, 1), (6, .putfield 7, 3), (9, .aload_n 0, 1), (10, .iload_n 2, 1), (11, .putfield 13, 3), (14, .return_, 1)] = true := by decide +kernel
theorem pn_lnInit : plainFor (⟨"java/util/ImmutableCollections$ListN", "<init>", "([Ljava/lang/Object;Z)V"⟩ : MethodName) = true := plainFor_of_name (by first | (simp [plainName, overriddenIn]; done) | decide +kernel)
theorem ef_lnInit (m : MethodId) (x0 : Addr) (x1 : Addr) (x2 : Int32) : entryFrame m #[(.ref x0), (.ref x1), (.int x2)] 3 = mkF m 0 #[vR x0, vR x1, vI x2] [] := by first | (simp [entryFrame, mkF, argsToLocals, Value.category]; done) | rfl
def Q_lnInit (Z : State) (ta ea : Addr) (z : Int32) (vs : List Value) (h0 : Heap) (n0 : Nat) (v : Option Value) (h : Heap) (L : List Loc) : Prop := v = none ∧ Fr n0 L ∧ Keep h0 h [ta] ∧ Exa Z h ta "java/util/ImmutableCollections$ListN" ∧ Fld Z h ta "java/util/ImmutableCollections$ListN" "elements" "[Ljava/lang/Object;" (.ref ea) ∧ Oar Z h ea z vs
set_option maxRecDepth 65536 in
set_option maxHeartbeats 40000000 in
theorem rm_lnInit (l : Launch) (Z : State) (a0 : Array Value) (hw : ∀ d ∈ tables_1, d.before a0 Z = true) (ws : List Jvm.Cond) (ta ea : Addr) (z : Int32) (vs : List Value) (h0 : Heap) (n0 : Nat) (Z0 : n0 ≤ h0.size) (hthis : n0 ≤ ta) (E1 : Exa Z h0 ta "java/util/ImmutableCollections$ListN") (F1 : Fld Z h0 ta "java/util/ImmutableCollections$ListN" "elements" "[Ljava/lang/Object;" .null) (F2 : Fld Z h0 ta "java/util/ImmutableCollections$ListN" "allowNulls" "Z" (.int 0)) (A : Oar Z h0 ea z vs) :
    MetFree l mN25 (head1 (Jvm.Cond.code mN25 jdk_45_method_1_code 3 none :: ws) rO16) (fun a U => a = #[(.ref ta), (.ref ea), (.int (0 : Int32))] ∧ Z.Warmed39 U.vm ∧ U.heap = h0) (fun _ _ _ _ _ => True) (fun _ U o U' => ∃ v L, o = .returned v ∧ Q_lnInit Z ta ea z vs h0 n0 v U'.heap L ∧ FrameEnd U o U' L rO16.cells rO16.slots) := by
  refine MetFree.of_bodySF pn_lnInit hisR ?_
  intro p e s m args below meth c s₁ Bd hml0 hP hK
  obtain ⟨rfl, hZ, hh⟩ := hP
  have hx := Bd.exec
  have hby := Bd.bytes
  have dq := @hb _ _ hby
  have hml : c.maxLocals = 3 := hml0
  have hown : s.vm.findClass "java/util/ImmutableCollections$ListN" = some m.cls := findClass_of_methodNamed Bd.named
  have hnm := (name_of_methodNamed Bd.named Bd.method).1
  have X0 : Stand p l e rO16 s m #[(.ref ta), (.ref ea), (.int (0 : Int32))] below meth c s₁ [] 0 0 := Stand.of_body Bd
  have e0 : s₁.heap = h0 := by rw [← hh, Bd.state]; rfl
  have N0 := Fr.nil n0
  show Rch p e below s₁ (entryFrame m #[(.ref ta), (.ref ea), (.int (0 : Int32))] 3) (fun U o => ∃ v L, o = .returned v ∧ Q_lnInit Z ta ea z vs h0 n0 v U.heap L ∧ FrameEnd s o U L rO16.cells rO16.slots)
  refine Rch.cast (ef_lnInit m ta ea (0 : Int32)) ?_
  show Rch p e below s₁ (mkF m 0 #[vR ta, vR ea, vI (0 : Int32)] []) _
  refine R1 (XS.aloadN X0.here hx rfl (dq (dg dln 0 rfl)) rfl rfl) ?_
  show Rch p e below s₁ (mkF m 1 #[vR ta, vR ea, vI (0 : Int32)] [(.ref ta)]) _
  obtain ⟨_, _, ⟨T104, L104, k104, n104⟩, -, X104, ⟨Lc104, hQ104, l104, y104, z104⟩, st104⟩ := X0.specialBack hx (y := mN22) rfl hown (mw hZ hw 402 rfl) (mw hZ hw 233 rfl) (mw hZ hw 237 rfl) (by decide) (backOf (W := 0) (rm_ailInit l Z a0 hw [] ta h0 n0 Z0) hZ (wq hw 237 rfl) (wq hw 236 rfl) (by decide) (by decide)) (g := (mkF m 1 #[vR ta, vR ea, vI (0 : Int32)] [(.ref ta)])) rfl (by rw [hml]; rfl) (Steps.refl _) (a := ta) (argsL := []) (rest := []) (lenOf pd_0 rfl) rfl (w0 rfl) (dq (dg dln 1 rfl)) (fun _ _ => ⟨rfl, e0, (by decide : 0 + 0 ≤ _), (by decide : 0 + 0 ≤ _)⟩)
  dsimp only [Pt.U, Pt.locs, Pt.cells, Pt.slots] at X104 l104 y104 z104 st104 hQ104
  subst l104 y104 z104
  obtain ⟨rfl, Nq104, e104⟩ := hQ104
  have N104 := Fr.app N0 Nq104
  refine R2 st104 ?_
  show Rch p e below T104 (mkF m 4 #[vR ta, vR ea, vI (0 : Int32)] []) _
  refine R1 (XS.aloadN X104.here hx rfl (dq (dg dln 2 rfl)) rfl rfl) ?_
  refine R1 (XS.aloadN X104.here hx rfl (dq (dg dln 3 rfl)) rfl rfl) ?_
  show Rch p e below T104 (mkF m 6 #[vR ta, vR ea, vI (0 : Int32)] [(.ref ea), (.ref ta)]) _
  have ne : ea ≠ ta := Ne.symm (E1.ne A.1 (by decide))
  obtain ⟨T105, h105, X105, e105, W105, st105⟩ := putF X104 hx hZ hown (host := "") (Or.inl (wq hw 406 rfl)) Via.refl e104 F1 E1 (Or.inr ⟨(wq hw 407 rfl), rfl, hnm⟩) (wq hw 396 rfl) (ty := (.array (.object "java/lang/Object"))) (by decide) rfl rfl (g := (mkF m 6 #[vR ta, vR ea, vI (0 : Int32)] [(.ref ea), (.ref ta)])) rfl rfl (dq (dg dln 4 rfl))
  have KK106 : Keep h0 h105 [ta] := (Keep.refl _ _).wr W105 (Or.inl (by simp))
  have N105 := Fr.snoc X105 N104 hthis
  refine R0_ st105 ?_
  show Rch p e below T105 (mkF m 9 #[vR ta, vR ea, vI (0 : Int32)] []) _
  refine R1 (XS.aloadN X105.here hx rfl (dq (dg dln 5 rfl)) rfl rfl) ?_
  refine R1 (XS.iloadN X105.here hx rfl (dq (dg dln 6 rfl)) rfl) ?_
  show Rch p e below T105 (mkF m 11 #[vR ta, vR ea, vI (0 : Int32)] [(.int (0 : Int32)), (.ref ta)]) _
  obtain ⟨T107, h107, X107, e107, W107, st107⟩ := putF X105 hx hZ hown (host := "") (Or.inl (wq hw 408 rfl)) Via.refl e105 (F2.other W105 (Or.inr (Ne.symm (ln_sl hw)))) (E1.wr W105) (Or.inr ⟨(wq hw 409 rfl), rfl, hnm⟩) (wq hw 396 rfl) (ty := .boolean) (by decide) rfl rfl (g := (mkF m 11 #[vR ta, vR ea, vI (0 : Int32)] [(.int (0 : Int32)), (.ref ta)])) rfl rfl (dq (dg dln 7 rfl))
  have KK108 : Keep h0 h107 [ta] := KK106.wr W107 (Or.inl (by simp))
  have N107 := Fr.snoc X107 N105 hthis
  refine R0_ st107 ?_
  show Rch p e below T107 (mkF m 14 #[vR ta, vR ea, vI (0 : Int32)] []) _
  exact Rch.fin (Q := Q_lnInit Z ta ea z vs h0 n0) X107 (v := none) (fun _ => rfl) (BodyLoose.notSynchronized Bd) (fun fs hr => X107.returnOut hx Bd.returns (dq (dg dln 8 rfl)) hr) (by rw [e107]; exact ⟨rfl, N107, KK108, (E1.wr W105).wr W107, (F1.same W105).other W107 (Or.inr (ln_sl hw)), (A.other W105 ne).other W107 ne⟩) (by decide) (by decide)
theorem not_l12 {Z : State} {a0 : Array Value} (hw : ∀ d ∈ tables_1, d.before a0 Z = true) : ∃ c t, Z.vm.findClass "java/util/ArrayList" = some c ∧ Z.vm.findClass "java/util/ImmutableCollections$List12" = some t ∧ Z.vm.assignable c t = false := nsNo (wq hw 208 rfl) (wq hw 226 rfl) (NS.step (wq hw 208 rfl) (NS.step (wq hw 209 rfl) (NS.step (wq hw 210 rfl) (nsRoot (wq hw 211 rfl) (wq hw 226 rfl) (by decide)) (by decide)) (by decide)) (by decide)) (by decide)
theorem not_ln {Z : State} {a0 : Array Value} (hw : ∀ d ∈ tables_1, d.before a0 Z = true) : ∃ c t, Z.vm.findClass "java/util/ArrayList" = some c ∧ Z.vm.findClass "java/util/ImmutableCollections$ListN" = some t ∧ Z.vm.assignable c t = false := nsNo (wq hw 208 rfl) (wq hw 396 rfl) (NS.step (wq hw 208 rfl) (NS.step (wq hw 209 rfl) (NS.step (wq hw 210 rfl) (nsRoot (wq hw 211 rfl) (wq hw 396 rfl) (by decide)) (by decide)) (by decide)) (by decide)) (by decide)
def L12p (Z : State) (h : Heap) (t x y : Addr) : Prop := Exa Z h t "java/util/ImmutableCollections$List12" ∧ Fld Z h t "java/util/ImmutableCollections$List12" "e0" "Ljava/lang/Object;" (.ref x) ∧ Fld Z h t "java/util/ImmutableCollections$List12" "e1" "Ljava/lang/Object;" (.ref y)
theorem L12p.ext {Z : State} {h h' : Heap} {t x y : Addr} (A : L12p Z h t x y) (E : Ext h h') : L12p Z h' t x y := ⟨A.1.ext E, A.2.1.ext E, A.2.2.ext E⟩
def LNp (Z : State) (h : Heap) (t : Addr) (n : Int32) (vs : List Value) : Prop := Exa Z h t "java/util/ImmutableCollections$ListN" ∧ ∃ eb, Fld Z h t "java/util/ImmutableCollections$ListN" "elements" "[Ljava/lang/Object;" (.ref eb) ∧ Oar Z h eb n vs
theorem LNp.ext {Z : State} {h h' : Heap} {t : Addr} {n : Int32} {vs : List Value} (A : LNp Z h t n vs) (E : Ext h h') : LNp Z h' t n vs := by obtain ⟨q1, eb, q2, q3⟩ := A; exact ⟨q1.ext E, eb, q2.ext E, q3.ext E⟩
theorem dlf : dxs jdk_56_method_4_code [(0, .aload_n 0, 1), (1, .arraylength, 1), (2, .anewarray 2, 3), (5, .astore_n 1, 1), (6, .iconst 0, 1), (7, .istore_n 2, 1), (8, .iload_n 2, 1), (9, .aload_n 0, 1), (10, .arraylength, 1), (11, .if_icmp .ge 18, 3), (14, .aload_n 1, 1), (15, .iload_n 2, 1), (16, .aload_n 0, 1), (17, .iload_n 2, 1), (18, .aaload, 1), (19, .invokestatic 37, 3), (22, .aastore, 1), (23, .iinc 2 1, 3), (26, .goto (-18), 3), (29, .new 12, 3), (32, .dup, 1), (33, .aload_n 1, 1), (34, .iconst 0, 1), (35, .invokespecial 43, 3), (38, .areturn, 1)] = true := by decide +kernel
theorem dlo : dxs jdk_40_method_47_code [(0, .aload_n 0, 1), (1, .arraylength, 1), (2, .tableswitch 57 0 2 #[26, 32, 43], 26), (45, .new 96, 3), (48, .dup, 1), (49, .aload_n 0, 1), (50, .iconst 0, 1), (51, .aaload, 1), (52, .aload_n 0, 1), (53, .iconst 1, 1), (54, .aaload, 1), (55, .invokespecial 100, 3), (58, .areturn, 1), (59, .aload_n 0, 1), (60, .invokestatic 109, 3), (63, .areturn, 1)] = true := by decide +kernel
theorem dlc : dxs jdk_56_method_3_code [(0, .aload_n 0, 1), (1, .instanceof 10, 3), (4, .ifCond .ne 22, 3), (7, .aload_n 0, 1), (8, .instanceof 12, 3), (11, .ifCond .eq 20, 3), (31, .aload_n 0, 1), (32, .invokeinterface 20 1, 5), (37, .ifCond .eq 7, 3), (44, .aload_n 0, 1), (45, .invokeinterface 30 1, 5), (50, .invokestatic 34, 3), (53, .areturn, 1)] = true := by decide +kernel
theorem dlp : dxs jdk_40_method_48_code [(0, .aload_n 0, 1), (1, .invokestatic 112, 3), (4, .areturn, 1)] = true := by decide +kernel
theorem pn_lof2 : plainFor (⟨"java/util/List", "of", "([Ljava/lang/Object;)Ljava/util/List;"⟩ : MethodName) = true := plainFor_of_name (by first | (simp [plainName, overriddenIn]; done) | decide +kernel)
theorem ef_lof2 (m : MethodId) (x0 : Addr) : entryFrame m #[(.ref x0)] 2 = mkF m 0 #[vR x0, .unset] [] := by first | (simp [entryFrame, mkF, argsToLocals, Value.category]; done) | rfl
def Q_lof2 (Z : State) (ea y0 y1 : Addr) (h0 : Heap) (n0 : Nat) (v : Option Value) (h : Heap) (L : List Loc) : Prop := ∃ t, v = some (.ref t) ∧ Fr n0 L ∧ Ext h0 h ∧ h0.size ≤ t ∧ L12p Z h t y0 y1
set_option maxRecDepth 65536 in
set_option maxHeartbeats 40000000 in
theorem rm_lof2 (l : Launch) (Z : State) (a0 : Array Value) (hw : ∀ d ∈ tables_1, d.before a0 Z = true) (ws : List Jvm.Cond) (ea y0 y1 : Addr) (h0 : Heap) (n0 : Nat) (Z0 : n0 ≤ h0.size) (A : Oar Z h0 ea (2 : Int32) [(.ref y0), (.ref y1)]) (EX0 : Exa Z h0 y0 "java/lang/String") (EX1 : Exa Z h0 y1 "java/lang/String") :
    MetFree l mN26 (head1 (Jvm.Cond.code mN26 jdk_40_method_47_code 2 (some (.object "java/util/List")) :: ws) rO17) (fun a U => a = #[(.ref ea)] ∧ Z.Warmed39 U.vm ∧ U.heap = h0) (fun _ _ _ _ _ => True) (fun _ U o U' => ∃ v L, o = .returned v ∧ Q_lof2 Z ea y0 y1 h0 n0 v U'.heap L ∧ FrameEnd U o U' L rO17.cells rO17.slots) := by
  refine MetFree.of_bodySF pn_lof2 hisR ?_
  intro p e s m args below meth c s₁ Bd hml0 hP hK
  obtain ⟨rfl, hZ, hh⟩ := hP
  have hx := Bd.exec
  have hby := Bd.bytes
  have dq := @hb _ _ hby
  have hml : c.maxLocals = 2 := hml0
  have hown : s.vm.findClass "java/util/List" = some m.cls := findClass_of_methodNamed Bd.named
  have X0 : Stand p l e rO17 s m #[(.ref ea)] below meth c s₁ [] 0 0 := Stand.of_body Bd
  have e0 : s₁.heap = h0 := by rw [← hh, Bd.state]; rfl
  have N0 := Fr.nil n0
  show Rch p e below s₁ (entryFrame m #[(.ref ea)] 2) (fun U o => ∃ v L, o = .returned v ∧ Q_lof2 Z ea y0 y1 h0 n0 v U.heap L ∧ FrameEnd s o U L rO17.cells rO17.slots)
  refine Rch.cast (ef_lof2 m ea) ?_
  show Rch p e below s₁ (mkF m 0 #[vR ea, .unset] []) _
  refine R1 (XS.aloadN X0.here hx rfl (dq (dg dlo 0 rfl)) rfl rfl) ?_
  show Rch p e below s₁ (mkF m 1 #[vR ea, .unset] [(.ref ea)]) _
  obtain ⟨kk109, M109⟩ := (A).arh
  refine R0_ (alenA X0 hx hZ e0 M109 (g := (mkF m 1 #[vR ea, .unset] [(.ref ea)])) rfl rfl (dq (dg dlo 1 rfl))) ?_
  show Rch p e below s₁ (mkF m 2 #[vR ea, .unset] [(.int (2 : Int32))]) _
  refine R1 (XS.tswIn X0.here hx rfl (pc0 := 2) (pc' := 45) rfl (dq (dg dlo 2 rfl)) rfl (by decide) rfl (by decide) (by decide)) ?_
  show Rch p e below s₁ (mkF m 45 #[vR ea, .unset] []) _
  obtain ⟨T110, h110, X110, e110, E110, A110, D110, -, st110⟩ := newO X0 hx hZ hown (wq hw 225 rfl) (wq hw 226 rfl) (wq hw 227 rfl) e0 (g := (mkF m 45 #[vR ea, .unset] [])) rfl (dq (dg dlo 3 rfl)) (by decide) (by decide)
  obtain ⟨a110, g110⟩ : ∃ z, z = h0.size := ⟨_, rfl⟩
  rw [← g110] at A110 D110 st110
  have Ex111 : Ext h0 h110 := E110
  have le112 : h0.size ≤ a110 := Nat.le_of_eq g110.symm
  refine R0_ st110 ?_
  show Rch p e below T110 (mkF m 48 #[vR ea, .unset] [(.ref a110)]) _
  refine R1 (XS.dup X110.here hx rfl (dq (dg dlo 4 rfl)) rfl rfl) ?_
  refine R1 (XS.aloadN X110.here hx rfl (dq (dg dlo 5 rfl)) rfl rfl) ?_
  refine R1 (XS.iconst X110.here hx rfl (dq (dg dlo 6 rfl)) ) ?_
  show Rch p e below T110 (mkF m 51 #[vR ea, .unset] [(.int (0 : Int32)), (.ref ea), (.ref a110), (.ref a110)]) _
  obtain ⟨kk113, M113⟩ := ((A.ext Ex111)).arh
  refine R0_ (aalA X110 hx hZ e110 M113 rfl ⟨by decide, by decide⟩ (v := (.ref y0)) rfl (g := (mkF m 51 #[vR ea, .unset] [(.int (0 : Int32)), (.ref ea), (.ref a110), (.ref a110)])) rfl rfl (dq (dg dlo 7 rfl))) ?_
  show Rch p e below T110 (mkF m 52 #[vR ea, .unset] [(.ref y0), (.ref a110), (.ref a110)]) _
  refine R1 (XS.aloadN X110.here hx rfl (dq (dg dlo 8 rfl)) rfl rfl) ?_
  refine R1 (XS.iconst X110.here hx rfl (dq (dg dlo 9 rfl)) ) ?_
  show Rch p e below T110 (mkF m 54 #[vR ea, .unset] [(.int (1 : Int32)), (.ref ea), (.ref y0), (.ref a110), (.ref a110)]) _
  obtain ⟨kk114, M114⟩ := ((A.ext Ex111)).arh
  refine R0_ (aalA X110 hx hZ e110 M114 rfl ⟨by decide, by decide⟩ (v := (.ref y1)) rfl (g := (mkF m 54 #[vR ea, .unset] [(.int (1 : Int32)), (.ref ea), (.ref y0), (.ref a110), (.ref a110)])) rfl rfl (dq (dg dlo 10 rfl))) ?_
  show Rch p e below T110 (mkF m 55 #[vR ea, .unset] [(.ref y1), (.ref y0), (.ref a110), (.ref a110)]) _
  obtain ⟨_, _, ⟨T115, L115, k115, n115⟩, -, X115, ⟨Lc115, hQ115, l115, y115, z115⟩, st115⟩ := X110.specialBack hx (y := mN24) rfl hown (mw hZ hw 228 rfl) (mw hZ hw 229 rfl) (mw hZ hw 231 rfl) (by decide) (backOf (W := 1) (rm_l12Init l Z a0 hw [] a110 y0 y1 h110 n0 (Nat.le_trans Z0 Ex111.1) (Nat.le_trans Z0 le112) A110 (D110 (Or.inr (wq hw 250 rfl)) (ty := (.object "java/lang/Object")) (by decide)) (D110 (Or.inr (wq hw 252 rfl)) (ty := (.object "java/lang/Object")) (by decide))) hZ (wq hw 231 rfl) (wq hw 227 rfl) (by decide) (by decide)) (g := (mkF m 55 #[vR ea, .unset] [(.ref y1), (.ref y0), (.ref a110), (.ref a110)])) rfl (by rw [hml]; rfl) (Steps.refl _) (a := a110) (argsL := [(.ref y0), (.ref y1)]) (rest := [(.ref a110)]) (lenOf pd_10 rfl) rfl (w0 rfl) (dq (dg dlo 11 rfl)) (fun _ _ => ⟨rfl, e110, (by decide : 1 + 0 ≤ _), (by decide : 2 + 0 ≤ _)⟩)
  dsimp only [Pt.U, Pt.locs, Pt.cells, Pt.slots] at X115 l115 y115 z115 st115 hQ115
  subst l115 y115 z115
  obtain ⟨rfl, Nq115, K115, E115, F115, G115⟩ := hQ115
  have N115 := Fr.app N0 Nq115
  have Ex116 : Ext h0 T115.heap := extKeep Ex111 K115 (allS le112 all0)
  refine R2 st115 ?_
  show Rch p e below T115 (mkF m 58 #[vR ea, .unset] [(.ref a110)]) _
  exact Rch.fin (Q := Q_lof2 Z ea y0 y1 h0 n0) X115 (v := some (.ref a110)) (fun h => by rw [Bd.returns] at h; cases h) (BodyLoose.notSynchronized Bd) (fun fs hr => retR X115 hx Bd.returns rfl rfl (dq (dg dlo 12 rfl)) hr) ⟨a110, rfl, N115, Ex116, le112, E115, F115, G115⟩ (by decide) (by decide)
theorem pn_lcp2 : plainFor (⟨"java/util/ImmutableCollections", "listCopy", "(Ljava/util/Collection;)Ljava/util/List;"⟩ : MethodName) = true := plainFor_of_name (by first | (simp [plainName, overriddenIn]; done) | decide +kernel)
def Q_lcp2 (Z : State) (ta ea mr y0 y1 : Addr) (h0 : Heap) (n0 : Nat) (v : Option Value) (h : Heap) (L : List Loc) : Prop := ∃ t, v = some (.ref t) ∧ Fr n0 L ∧ Ext h0 h ∧ h0.size ≤ t ∧ L12p Z h t y0 y1
set_option maxRecDepth 65536 in
set_option maxHeartbeats 40000000 in
theorem rm_lcp2 (l : Launch) (Z : State) (a0 : Array Value) (hw : ∀ d ∈ tables_1, d.before a0 Z = true) (ws : List Jvm.Cond) (ta ea mr y0 y1 : Addr) (h0 : Heap) (n0 : Nat) (Z0 : n0 ≤ h0.size) (A : Al Z h0 ta ea (2 : Int32) (2 : Int32) [(.ref y0), (.ref y1)]) (MR : Mi Z "[Ljava/lang/Object;" mr) (EX0 : Exa Z h0 y0 "java/lang/String") (EX1 : Exa Z h0 y1 "java/lang/String") :
    MetFree l mN27 (head1 (Jvm.Cond.code mN27 jdk_56_method_3_code 2 (some (.object "java/util/List")) :: ws) rO18) (fun a U => a = #[(.ref ta)] ∧ Z.Warmed39 U.vm ∧ U.heap = h0) (fun _ _ _ _ _ => True) (fun _ U o U' => ∃ v L, o = .returned v ∧ Q_lcp2 Z ta ea mr y0 y1 h0 n0 v U'.heap L ∧ FrameEnd U o U' L rO18.cells rO18.slots) := by
  refine MetFree.of_bodySF pn_lcp2 hisR ?_
  intro p e s m args below meth c s₁ Bd hml0 hP hK
  obtain ⟨rfl, hZ, hh⟩ := hP
  have hx := Bd.exec
  have hby := Bd.bytes
  have dq := @hb _ _ hby
  have hml : c.maxLocals = 2 := hml0
  have hown : s.vm.findClass "java/util/ImmutableCollections" = some m.cls := findClass_of_methodNamed Bd.named
  have X0 : Stand p l e rO18 s m #[(.ref ta)] below meth c s₁ [] 0 0 := Stand.of_body Bd
  have e0 : s₁.heap = h0 := by rw [← hh, Bd.state]; rfl
  have N0 := Fr.nil n0
  show Rch p e below s₁ (entryFrame m #[(.ref ta)] 2) (fun U o => ∃ v L, o = .returned v ∧ Q_lcp2 Z ta ea mr y0 y1 h0 n0 v U.heap L ∧ FrameEnd s o U L rO18.cells rO18.slots)
  refine Rch.cast (ef_lof2 m ta) ?_
  show Rch p e below s₁ (mkF m 0 #[vR ta, .unset] []) _
  refine R1 (XS.aloadN X0.here hx rfl (dq (dg dlc 0 rfl)) rfl rfl) ?_
  show Rch p e below s₁ (mkF m 1 #[vR ta, .unset] [(.ref ta)]) _
  obtain ⟨T117, X117, e117, st117⟩ := instNo X0 hx hZ hown (wq hw 207 rfl) e0 A.1 (not_l12 hw) (g := (mkF m 1 #[vR ta, .unset] [(.ref ta)])) rfl rfl (dq (dg dlc 1 rfl))
  refine R0_ st117 ?_
  show Rch p e below T117 (mkF m 4 #[vR ta, .unset] [(.int (0 : Int32))]) _
  refine R1 (XS.ifNo X117.here hx rfl (dq (dg dlc 2 rfl)) rfl (by decide : ifCond.holds .ne (0 : Int32) = false)) ?_
  refine R1 (XS.aloadN X117.here hx rfl (dq (dg dlc 3 rfl)) rfl rfl) ?_
  show Rch p e below T117 (mkF m 8 #[vR ta, .unset] [(.ref ta)]) _
  obtain ⟨T118, X118, e118, st118⟩ := instNo X117 hx hZ hown (wq hw 212 rfl) e117 A.1 (not_ln hw) (g := (mkF m 8 #[vR ta, .unset] [(.ref ta)])) rfl rfl (dq (dg dlc 4 rfl))
  refine R0_ st118 ?_
  show Rch p e below T118 (mkF m 11 #[vR ta, .unset] [(.int (0 : Int32))]) _
  refine R1 (XS.ifYes X118.here hx rfl (pc0 := 11) (pc' := 31) rfl (dq (dg dlc 5 rfl)) rfl (by decide : ifCond.holds .eq (0 : Int32) = true) (by decide) (by decide)) ?_
  refine R1 (XS.aloadN X118.here hx rfl (dq (dg dlc 6 rfl)) rfl rfl) ?_
  show Rch p e below T118 (mkF m 32 #[vR ta, .unset] [(.ref ta)]) _
  obtain ⟨cq119, kq119, q119a, q119b, q119c⟩ := isOf hZ e118 A.1
  obtain ⟨_, _, ⟨T119, L119, k119, n119⟩, -, X119, ⟨Lc119, hQ119, l119, y119, z119⟩, st119⟩ := X118.interfaceBack hx (xi := mN28) (y := mN9) hown (mw hZ hw 213 rfl) (mw hZ hw 214 rfl) (mw hZ hw 215 rfl) (mw hZ hw 216 rfl) (mw hZ hw 217 rfl) (mw hZ hw 218 rfl) (mw hZ hw 219 rfl) (mw hZ hw 167 rfl) (by decide) (backOf (W := 0) (rm_alEmp l Z a0 hw [] ta ea (2 : Int32) (2 : Int32) [(.ref y0), (.ref y1)] h0 n0 Z0 A (by decide)) hZ (wq hw 220 rfl) (wq hw 33 rfl) (by decide) (by decide)) q119a q119b q119c (g := (mkF m 32 #[vR ta, .unset] [(.ref ta)])) rfl (by rw [hml]; rfl) (Steps.refl _) (argsL := []) (rest := []) (lenOf pd_11 rfl) rfl (w0 rfl) (dq (dg dlc 7 rfl)) (fun _ _ => ⟨rfl, e118, (by decide : 0 + 0 ≤ _), (by decide : 0 + 0 ≤ _)⟩)
  dsimp only [Pt.U, Pt.locs, Pt.cells, Pt.slots] at X119 l119 y119 z119 st119 hQ119
  subst l119 y119 z119
  obtain ⟨rfl, Nq119, e119⟩ := hQ119
  have N119 := Fr.app N0 Nq119
  refine R2 st119 ?_
  show Rch p e below T119 (mkF m 37 #[vR ta, .unset] [(.int (0 : Int32))]) _
  refine R1 (XS.ifYes X119.here hx rfl (pc0 := 37) (pc' := 44) rfl (dq (dg dlc 8 rfl)) rfl (by decide : ifCond.holds .eq (0 : Int32) = true) (by decide) (by decide)) ?_
  refine R1 (XS.aloadN X119.here hx rfl (dq (dg dlc 9 rfl)) rfl rfl) ?_
  show Rch p e below T119 (mkF m 45 #[vR ta, .unset] [(.ref ta)]) _
  obtain ⟨cq120, kq120, q120a, q120b, q120c⟩ := isOf hZ e119 A.1
  obtain ⟨_, _, ⟨T120, L120, k120, n120⟩, -, X120, ⟨Lc120, hQ120, l120, y120, z120⟩, st120⟩ := X119.interfaceBack hx (xi := mN20) (y := mN17) hown (mw hZ hw 221 rfl) (mw hZ hw 161 rfl) (mw hZ hw 162 rfl) (mw hZ hw 163 rfl) (mw hZ hw 164 rfl) (mw hZ hw 165 rfl) (mw hZ hw 166 rfl) (mw hZ hw 167 rfl) (by decide) (backOf (W := 0) (rm_toArr l Z a0 hw [] ta ea mr (2 : Int32) (2 : Int32) [(.ref y0), (.ref y1)] [(.ref y0), (.ref y1)] h0 n0 Z0 A MR (by decide) (by decide) (by decide) rfl (fun v hv => by simp only [List.mem_cons, List.not_mem_nil, or_false] at hv; rcases hv with rfl | rfl <;> first | exact ⟨_, rfl, EX0⟩ | exact ⟨_, rfl, EX1⟩)) hZ (wq hw 168 rfl) (wq hw 33 rfl) (by decide) (by decide)) q120a q120b q120c (g := (mkF m 45 #[vR ta, .unset] [(.ref ta)])) rfl (by rw [hml]; rfl) (Steps.refl _) (argsL := []) (rest := []) (lenOf pd_3 rfl) rfl (w0 rfl) (dq (dg dlc 10 rfl)) (fun _ _ => ⟨rfl, e119, (by decide : 0 + 1 ≤ _), (by decide : 0 + 4 ≤ _)⟩)
  dsimp only [Pt.U, Pt.locs, Pt.cells, Pt.slots] at X120 l120 y120 z120 st120 hQ120
  subst l120 y120 z120
  obtain ⟨b120, rfl, Nq120, E120, le120_, O120⟩ := hQ120
  have N120 := Fr.app N119 Nq120
  have Ex121 : Ext h0 T120.heap := E120
  refine R2 st120 ?_
  show Rch p e below T120 (mkF m 50 #[vR ta, .unset] [(.ref b120)]) _
  obtain ⟨_, _, ⟨T122, L122, k122, n122⟩, -, X122, ⟨Lc122, hQ122, l122, y122, z122⟩, st122⟩ := Jvm.LawKit.callS X120 hx (y := mN26) hown (mw hZ hw 222 rfl) (mw hZ hw 223 rfl) (mw hZ hw 201 rfl) (mw hZ hw 224 rfl) (by decide) (backOf (W := 0) (rm_lof2 l Z a0 hw [] b120 y0 y1 T120.heap n0 (Nat.le_trans Z0 Ex121.1) O120 (EX0.ext Ex121) (EX1.ext Ex121)) hZ (wq hw 224 rfl) (wq hw 201 rfl) (by decide) (by decide)) (g := (mkF m 50 #[vR ta, .unset] [(.ref b120)])) rfl (by rw [hml]; rfl) (argsL := [(.ref b120)]) (rest := []) (lenOf pd_12 rfl) rfl (w0 rfl) (dq (dg dlc 11 rfl)) (fun _ _ => ⟨rfl, rfl, (by decide : 1 + 1 ≤ _), (by decide : 4 + 2 ≤ _)⟩)
  dsimp only [Pt.U, Pt.locs, Pt.cells, Pt.slots] at X122 l122 y122 z122 st122 hQ122
  subst l122 y122 z122
  obtain ⟨t122, rfl, Nq122, E122, le122_, R122⟩ := hQ122
  have N122 := Fr.app N120 Nq122
  have Ex123 : Ext h0 T122.heap := Ex121.tr E122
  refine R0_ st122 ?_
  show Rch p e below T122 (mkF m 53 #[vR ta, .unset] [(.ref t122)]) _
  exact Rch.fin (Q := Q_lcp2 Z ta ea mr y0 y1 h0 n0) X122 (v := some (.ref t122)) (fun h => by rw [Bd.returns] at h; cases h) (BodyLoose.notSynchronized Bd) (fun fs hr => retR X122 hx Bd.returns rfl rfl (dq (dg dlc 12 rfl)) hr) ⟨t122, rfl, N122, Ex123, Nat.le_trans E120.1 le122_, R122⟩ (by decide) (by decide)
theorem pn_cpo2 : plainFor (⟨"java/util/List", "copyOf", "(Ljava/util/Collection;)Ljava/util/List;"⟩ : MethodName) = true := plainFor_of_name (by first | (simp [plainName, overriddenIn]; done) | decide +kernel)
def Q_cpo2 (Z : State) (ta ea mr y0 y1 : Addr) (h0 : Heap) (n0 : Nat) (v : Option Value) (h : Heap) (L : List Loc) : Prop := ∃ t, v = some (.ref t) ∧ Fr n0 L ∧ Ext h0 h ∧ h0.size ≤ t ∧ L12p Z h t y0 y1
set_option maxRecDepth 65536 in
set_option maxHeartbeats 40000000 in
theorem rm_cpo2 (l : Launch) (Z : State) (a0 : Array Value) (hw : ∀ d ∈ tables_1, d.before a0 Z = true) (ws : List Jvm.Cond) (ta ea mr y0 y1 : Addr) (h0 : Heap) (n0 : Nat) (Z0 : n0 ≤ h0.size) (A : Al Z h0 ta ea (2 : Int32) (2 : Int32) [(.ref y0), (.ref y1)]) (MR : Mi Z "[Ljava/lang/Object;" mr) (EX0 : Exa Z h0 y0 "java/lang/String") (EX1 : Exa Z h0 y1 "java/lang/String") :
    MetFree l mN29 (head1 (Jvm.Cond.code mN29 jdk_40_method_48_code 1 (some (.object "java/util/List")) :: ws) rO19) (fun a U => a = #[(.ref ta)] ∧ Z.Warmed39 U.vm ∧ U.heap = h0) (fun _ _ _ _ _ => True) (fun _ U o U' => ∃ v L, o = .returned v ∧ Q_cpo2 Z ta ea mr y0 y1 h0 n0 v U'.heap L ∧ FrameEnd U o U' L rO19.cells rO19.slots) := by
  refine MetFree.of_bodySF pn_cpo2 hisR ?_
  intro p e s m args below meth c s₁ Bd hml0 hP hK
  obtain ⟨rfl, hZ, hh⟩ := hP
  have hx := Bd.exec
  have hby := Bd.bytes
  have dq := @hb _ _ hby
  have hml : c.maxLocals = 1 := hml0
  have hown : s.vm.findClass "java/util/List" = some m.cls := findClass_of_methodNamed Bd.named
  have X0 : Stand p l e rO19 s m #[(.ref ta)] below meth c s₁ [] 0 0 := Stand.of_body Bd
  have e0 : s₁.heap = h0 := by rw [← hh, Bd.state]; rfl
  have N0 := Fr.nil n0
  show Rch p e below s₁ (entryFrame m #[(.ref ta)] 1) (fun U o => ∃ v L, o = .returned v ∧ Q_cpo2 Z ta ea mr y0 y1 h0 n0 v U.heap L ∧ FrameEnd s o U L rO19.cells rO19.slots)
  refine Rch.cast (ef_acInit m ta) ?_
  show Rch p e below s₁ (mkF m 0 #[vR ta] []) _
  refine R1 (XS.aloadN X0.here hx rfl (dq (dg dlp 0 rfl)) rfl rfl) ?_
  show Rch p e below s₁ (mkF m 1 #[vR ta] [(.ref ta)]) _
  obtain ⟨_, _, ⟨T125, L125, k125, n125⟩, -, X125, ⟨Lc125, hQ125, l125, y125, z125⟩, st125⟩ := Jvm.LawKit.callS X0 hx (y := mN27) hown (mw hZ hw 203 rfl) (mw hZ hw 204 rfl) (mw hZ hw 205 rfl) (mw hZ hw 206 rfl) (by decide) (backOf (W := 0) (rm_lcp2 l Z a0 hw [] ta ea mr y0 y1 h0 n0 Z0 A MR EX0 EX1) hZ (wq hw 206 rfl) (wq hw 205 rfl) (by decide) (by decide)) (g := (mkF m 1 #[vR ta] [(.ref ta)])) rfl (by rw [hml]; rfl) (argsL := [(.ref ta)]) (rest := []) (lenOf pd_13 rfl) rfl (w0 rfl) (dq (dg dlp 1 rfl)) (fun _ _ => ⟨rfl, e0, (by decide : 0 + 2 ≤ _), (by decide : 0 + 6 ≤ _)⟩)
  dsimp only [Pt.U, Pt.locs, Pt.cells, Pt.slots] at X125 l125 y125 z125 st125 hQ125
  subst l125 y125 z125
  obtain ⟨t125, rfl, Nq125, E125, le125_, R125⟩ := hQ125
  have N125 := Fr.app N0 Nq125
  have Ex126 : Ext h0 T125.heap := E125
  refine R0_ st125 ?_
  show Rch p e below T125 (mkF m 4 #[vR ta] [(.ref t125)]) _
  exact Rch.fin (Q := Q_cpo2 Z ta ea mr y0 y1 h0 n0) X125 (v := some (.ref t125)) (fun h => by rw [Bd.returns] at h; cases h) (BodyLoose.notSynchronized Bd) (fun fs hr => retR X125 hx Bd.returns rfl rfl (dq (dg dlp 2 rfl)) hr) ⟨t125, rfl, N125, Ex126, le125_, R125⟩ (by decide) (by decide)
theorem pn_lfa3 : plainFor (⟨"java/util/ImmutableCollections", "listFromArray", "([Ljava/lang/Object;)Ljava/util/List;"⟩ : MethodName) = true := plainFor_of_name (by first | (simp [plainName, overriddenIn]; done) | decide +kernel)
theorem ef_lfa3 (m : MethodId) (x0 : Addr) : entryFrame m #[(.ref x0)] 3 = mkF m 0 #[vR x0, .unset, .unset] [] := by first | (simp [entryFrame, mkF, argsToLocals, Value.category]; done) | rfl
def Q_lfa3 (Z : State) (ea y0 y1 y2 : Addr) (h0 : Heap) (n0 : Nat) (v : Option Value) (h : Heap) (L : List Loc) : Prop := ∃ t, v = some (.ref t) ∧ Fr n0 L ∧ Ext h0 h ∧ h0.size ≤ t ∧ LNp Z h t (3 : Int32) [(.ref y0), (.ref y1), (.ref y2)]
set_option maxRecDepth 65536 in
set_option maxHeartbeats 40000000 in
theorem rm_lfa3 (l : Launch) (Z : State) (a0 : Array Value) (hw : ∀ d ∈ tables_1, d.before a0 Z = true) (ws : List Jvm.Cond) (ea y0 y1 y2 : Addr) (h0 : Heap) (n0 : Nat) (Z0 : n0 ≤ h0.size) (A : Oar Z h0 ea (3 : Int32) [(.ref y0), (.ref y1), (.ref y2)]) (EX0 : Exa Z h0 y0 "java/lang/String") (EX1 : Exa Z h0 y1 "java/lang/String") (EX2 : Exa Z h0 y2 "java/lang/String") :
    MetFree l mN30 (head1 (Jvm.Cond.code mN30 jdk_56_method_4_code 3 (some (.object "java/util/List")) :: ws) rO20) (fun a U => a = #[(.ref ea)] ∧ Z.Warmed39 U.vm ∧ U.heap = h0) (fun _ _ _ _ _ => True) (fun _ U o U' => ∃ v L, o = .returned v ∧ Q_lfa3 Z ea y0 y1 y2 h0 n0 v U'.heap L ∧ FrameEnd U o U' L rO20.cells rO20.slots) := by
  refine MetFree.of_bodySF pn_lfa3 hisR ?_
  intro p e s m args below meth c s₁ Bd hml0 hP hK
  obtain ⟨rfl, hZ, hh⟩ := hP
  have hx := Bd.exec
  have hby := Bd.bytes
  have dq := @hb _ _ hby
  have hml : c.maxLocals = 3 := hml0
  have hown : s.vm.findClass "java/util/ImmutableCollections" = some m.cls := findClass_of_methodNamed Bd.named
  have X0 : Stand p l e rO20 s m #[(.ref ea)] below meth c s₁ [] 0 0 := Stand.of_body Bd
  have e0 : s₁.heap = h0 := by rw [← hh, Bd.state]; rfl
  have N0 := Fr.nil n0
  show Rch p e below s₁ (entryFrame m #[(.ref ea)] 3) (fun U o => ∃ v L, o = .returned v ∧ Q_lfa3 Z ea y0 y1 y2 h0 n0 v U.heap L ∧ FrameEnd s o U L rO20.cells rO20.slots)
  refine Rch.cast (ef_lfa3 m ea) ?_
  show Rch p e below s₁ (mkF m 0 #[vR ea, .unset, .unset] []) _
  refine R1 (XS.aloadN X0.here hx rfl (dq (dg dlf 0 rfl)) rfl rfl) ?_
  show Rch p e below s₁ (mkF m 1 #[vR ea, .unset, .unset] [(.ref ea)]) _
  obtain ⟨kk127, M127⟩ := (A).arh
  refine R0_ (alenA X0 hx hZ e0 M127 (g := (mkF m 1 #[vR ea, .unset, .unset] [(.ref ea)])) rfl rfl (dq (dg dlf 1 rfl))) ?_
  show Rch p e below s₁ (mkF m 2 #[vR ea, .unset, .unset] [(.int (3 : Int32))]) _
  obtain ⟨T128, h128, c128, X128, e128, E128, A128, Q128, O128, st128⟩ := newRE X0 hx hZ hown (wq hw 394 rfl) (wq hw 84 rfl) e0 (g := (mkF m 2 #[vR ea, .unset, .unset] [(.int (3 : Int32))])) rfl (dq (dg dlf 2 rfl)) rfl (by decide : ¬ ((3 : Int32) < (0 : Int32))) (cap := 3) (by decide) (by decide) (by decide) (by decide) (ad := "[Ljava/lang/Object;") (by decide)
  obtain ⟨a128, g128⟩ : ∃ z, z = h0.size := ⟨_, rfl⟩
  rw [← g128] at A128 Q128 st128
  have Ex129 : Ext h0 h128 := E128
  have le130 : h0.size ≤ a128 := Nat.le_of_eq g128.symm
  refine R0_ st128 ?_
  show Rch p e below T128 (mkF m 5 #[vR ea, .unset, .unset] [(.ref a128)]) _
  have OA128 : Oar Z h128 a128 (3 : Int32) [] := ⟨Q128, c128, Arv.new A128 (by decide : ¬ ((3 : Int32) < (0 : Int32))), O128⟩
  refine R1 (XS.astoreN X128.here hx rfl (dq (dg dlf 3 rfl)) rfl rfl (l' := #[vR ea, vR a128, .unset]) rfl) ?_
  refine R1 (XS.iconst X128.here hx rfl (dq (dg dlf 4 rfl)) ) ?_
  refine R1 (XS.istoreN X128.here hx rfl (dq (dg dlf 5 rfl)) rfl (l' := #[vR ea, vR a128, vI (0 : Int32)]) rfl) ?_
  refine R1 (XS.iloadN X128.here hx rfl (dq (dg dlf 6 rfl)) rfl) ?_
  show Rch p e below T128 (mkF m 9 #[vR ea, vR a128, vI (0 : Int32)] [(.int (0 : Int32))]) _
  refine R1 (XS.aloadN X128.here hx rfl (dq (dg dlf 7 rfl)) rfl rfl) ?_
  show Rch p e below T128 (mkF m 10 #[vR ea, vR a128, vI (0 : Int32)] [(.ref ea), (.int (0 : Int32))]) _
  obtain ⟨kk131, M131⟩ := ((A.ext Ex129)).arh
  refine R0_ (alenA X128 hx hZ e128 M131 (g := (mkF m 10 #[vR ea, vR a128, vI (0 : Int32)] [(.ref ea), (.int (0 : Int32))])) rfl rfl (dq (dg dlf 8 rfl))) ?_
  show Rch p e below T128 (mkF m 11 #[vR ea, vR a128, vI (0 : Int32)] [(.int (3 : Int32)), (.int (0 : Int32))]) _
  refine R1 (XS.icmpNo X128.here hx rfl (dq (dg dlf 9 rfl)) rfl (by decide : if_icmp.holds .ge (0 : Int32) (3 : Int32) = false)) ?_
  refine R1 (XS.aloadN X128.here hx rfl (dq (dg dlf 10 rfl)) rfl rfl) ?_
  refine R1 (XS.iloadN X128.here hx rfl (dq (dg dlf 11 rfl)) rfl) ?_
  refine R1 (XS.aloadN X128.here hx rfl (dq (dg dlf 12 rfl)) rfl rfl) ?_
  show Rch p e below T128 (mkF m 17 #[vR ea, vR a128, vI (0 : Int32)] [(.ref ea), (.int (0 : Int32)), (.ref a128)]) _
  refine R1 (XS.iloadN X128.here hx rfl (dq (dg dlf 13 rfl)) rfl) ?_
  show Rch p e below T128 (mkF m 18 #[vR ea, vR a128, vI (0 : Int32)] [(.int (0 : Int32)), (.ref ea), (.int (0 : Int32)), (.ref a128)]) _
  obtain ⟨kk132, M132⟩ := ((A.ext Ex129)).arh
  refine R0_ (aalA X128 hx hZ e128 M132 rfl ⟨by decide, by decide⟩ (v := (.ref y0)) rfl (g := (mkF m 18 #[vR ea, vR a128, vI (0 : Int32)] [(.int (0 : Int32)), (.ref ea), (.int (0 : Int32)), (.ref a128)])) rfl rfl (dq (dg dlf 14 rfl))) ?_
  show Rch p e below T128 (mkF m 19 #[vR ea, vR a128, vI (0 : Int32)] [(.ref y0), (.int (0 : Int32)), (.ref a128)]) _
  obtain ⟨_, _, ⟨T133, L133, k133, n133⟩, -, X133, ⟨Lc133, hQ133, l133, y133, z133⟩, st133⟩ := Jvm.LawKit.callS X128 hx (y := mN23) hown (mw hZ hw 395 rfl) (mw hZ hw 247 rfl) (mw hZ hw 126 rfl) (mw hZ hw 248 rfl) (by decide) (backOf (W := 2) (rm_rnn l Z a0 hw [] y0 h128 n0 (Nat.le_trans Z0 Ex129.1)) hZ (wq hw 248 rfl) (wq hw 126 rfl) (by decide) (by decide)) (g := (mkF m 19 #[vR ea, vR a128, vI (0 : Int32)] [(.ref y0), (.int (0 : Int32)), (.ref a128)])) rfl (by rw [hml]; rfl) (argsL := [(.ref y0)]) (rest := [(.int (0 : Int32)), (.ref a128)]) (lenOf pd_9 rfl) rfl (w0 rfl) (dq (dg dlf 15 rfl)) (fun _ _ => ⟨rfl, e128, (by decide : 1 + 0 ≤ _), (by decide : 3 + 0 ≤ _)⟩)
  dsimp only [Pt.U, Pt.locs, Pt.cells, Pt.slots] at X133 l133 y133 z133 st133 hQ133
  subst l133 y133 z133
  obtain ⟨rfl, Nq133, e133⟩ := hQ133
  have N133 := Fr.app N0 Nq133
  refine R0_ st133 ?_
  show Rch p e below T133 (mkF m 22 #[vR ea, vR a128, vI (0 : Int32)] [(.ref y0), (.int (0 : Int32)), (.ref a128)]) _
  obtain ⟨T134, h134, L134, sl134, X134, e134, W134, O134, N134, st134⟩ := stRp X133 hx hZ e133 OA128 N133 (Nat.le_trans Z0 le130) (Ins.of_exa (EX0.ext Ex129) (wq hw 85 rfl)) ⟨by decide, by decide⟩ rfl (g := (mkF m 22 #[vR ea, vR a128, vI (0 : Int32)] [(.ref y0), (.int (0 : Int32)), (.ref a128)])) rfl rfl (dq (dg dlf 16 rfl))
  have Ex135 : Ext h0 h134 := extWr Ex129 W134 le130
  refine R0_ st134 ?_
  show Rch p e below T134 (mkF m 23 #[vR ea, vR a128, vI (0 : Int32)] []) _
  refine R1 (XS.iinc X134.here hx rfl (dq (dg dlf 17 rfl)) rfl (l' := #[vR ea, vR a128, vI (1 : Int32)]) rfl) ?_
  refine R1 (XS.goto X134.here hx rfl (pc0 := 26) (pc' := 8) rfl (dq (dg dlf 18 rfl)) (by decide) (by decide)) ?_
  refine R1 (XS.iloadN X134.here hx rfl (dq (dg dlf 6 rfl)) rfl) ?_
  refine R1 (XS.aloadN X134.here hx rfl (dq (dg dlf 7 rfl)) rfl rfl) ?_
  show Rch p e below T134 (mkF m 10 #[vR ea, vR a128, vI (1 : Int32)] [(.ref ea), (.int (1 : Int32))]) _
  obtain ⟨kk136, M136⟩ := ((A.ext Ex135)).arh
  refine R0_ (alenA X134 hx hZ e134 M136 (g := (mkF m 10 #[vR ea, vR a128, vI (1 : Int32)] [(.ref ea), (.int (1 : Int32))])) rfl rfl (dq (dg dlf 8 rfl))) ?_
  show Rch p e below T134 (mkF m 11 #[vR ea, vR a128, vI (1 : Int32)] [(.int (3 : Int32)), (.int (1 : Int32))]) _
  refine R1 (XS.icmpNo X134.here hx rfl (dq (dg dlf 9 rfl)) rfl (by decide : if_icmp.holds .ge (1 : Int32) (3 : Int32) = false)) ?_
  refine R1 (XS.aloadN X134.here hx rfl (dq (dg dlf 10 rfl)) rfl rfl) ?_
  refine R1 (XS.iloadN X134.here hx rfl (dq (dg dlf 11 rfl)) rfl) ?_
  refine R1 (XS.aloadN X134.here hx rfl (dq (dg dlf 12 rfl)) rfl rfl) ?_
  show Rch p e below T134 (mkF m 17 #[vR ea, vR a128, vI (1 : Int32)] [(.ref ea), (.int (1 : Int32)), (.ref a128)]) _
  refine R1 (XS.iloadN X134.here hx rfl (dq (dg dlf 13 rfl)) rfl) ?_
  show Rch p e below T134 (mkF m 18 #[vR ea, vR a128, vI (1 : Int32)] [(.int (1 : Int32)), (.ref ea), (.int (1 : Int32)), (.ref a128)]) _
  obtain ⟨kk137, M137⟩ := ((A.ext Ex135)).arh
  refine R0_ (aalA X134 hx hZ e134 M137 rfl ⟨by decide, by decide⟩ (v := (.ref y1)) rfl (g := (mkF m 18 #[vR ea, vR a128, vI (1 : Int32)] [(.int (1 : Int32)), (.ref ea), (.int (1 : Int32)), (.ref a128)])) rfl rfl (dq (dg dlf 14 rfl))) ?_
  show Rch p e below T134 (mkF m 19 #[vR ea, vR a128, vI (1 : Int32)] [(.ref y1), (.int (1 : Int32)), (.ref a128)]) _
  obtain ⟨_, _, ⟨T138, L138, k138, n138⟩, -, X138, ⟨Lc138, hQ138, l138, y138, z138⟩, st138⟩ := Jvm.LawKit.callS X134 hx (y := mN23) hown (mw hZ hw 395 rfl) (mw hZ hw 247 rfl) (mw hZ hw 126 rfl) (mw hZ hw 248 rfl) (by decide) (backOf (W := 2) (rm_rnn l Z a0 hw [] y1 h134 n0 (Nat.le_trans Z0 Ex135.1)) hZ (wq hw 248 rfl) (wq hw 126 rfl) (by decide) (by decide)) (g := (mkF m 19 #[vR ea, vR a128, vI (1 : Int32)] [(.ref y1), (.int (1 : Int32)), (.ref a128)])) rfl (by rw [hml]; rfl) (argsL := [(.ref y1)]) (rest := [(.int (1 : Int32)), (.ref a128)]) (lenOf pd_9 rfl) rfl (w0 rfl) (dq (dg dlf 15 rfl)) (fun _ _ => ⟨rfl, e134, (by decide : 1 + 0 ≤ _), (by decide : 3 + 0 ≤ _)⟩)
  dsimp only [Pt.U, Pt.locs, Pt.cells, Pt.slots] at X138 l138 y138 z138 st138 hQ138
  subst l138 y138 z138
  obtain ⟨rfl, Nq138, e138⟩ := hQ138
  have N138 := Fr.app N134 Nq138
  refine R0_ st138 ?_
  show Rch p e below T138 (mkF m 22 #[vR ea, vR a128, vI (1 : Int32)] [(.ref y1), (.int (1 : Int32)), (.ref a128)]) _
  obtain ⟨T139, h139, L139, sl139, X139, e139, W139, O139, N139, st139⟩ := stRp X138 hx hZ e138 O134 N138 (Nat.le_trans Z0 le130) (Ins.of_exa (EX1.ext Ex135) (wq hw 85 rfl)) ⟨by decide, by decide⟩ rfl (g := (mkF m 22 #[vR ea, vR a128, vI (1 : Int32)] [(.ref y1), (.int (1 : Int32)), (.ref a128)])) rfl rfl (dq (dg dlf 16 rfl))
  have Ex140 : Ext h0 h139 := extWr Ex135 W139 le130
  refine R0_ st139 ?_
  show Rch p e below T139 (mkF m 23 #[vR ea, vR a128, vI (1 : Int32)] []) _
  refine R1 (XS.iinc X139.here hx rfl (dq (dg dlf 17 rfl)) rfl (l' := #[vR ea, vR a128, vI (2 : Int32)]) rfl) ?_
  refine R1 (XS.goto X139.here hx rfl (pc0 := 26) (pc' := 8) rfl (dq (dg dlf 18 rfl)) (by decide) (by decide)) ?_
  refine R1 (XS.iloadN X139.here hx rfl (dq (dg dlf 6 rfl)) rfl) ?_
  refine R1 (XS.aloadN X139.here hx rfl (dq (dg dlf 7 rfl)) rfl rfl) ?_
  show Rch p e below T139 (mkF m 10 #[vR ea, vR a128, vI (2 : Int32)] [(.ref ea), (.int (2 : Int32))]) _
  obtain ⟨kk141, M141⟩ := ((A.ext Ex140)).arh
  refine R0_ (alenA X139 hx hZ e139 M141 (g := (mkF m 10 #[vR ea, vR a128, vI (2 : Int32)] [(.ref ea), (.int (2 : Int32))])) rfl rfl (dq (dg dlf 8 rfl))) ?_
  show Rch p e below T139 (mkF m 11 #[vR ea, vR a128, vI (2 : Int32)] [(.int (3 : Int32)), (.int (2 : Int32))]) _
  refine R1 (XS.icmpNo X139.here hx rfl (dq (dg dlf 9 rfl)) rfl (by decide : if_icmp.holds .ge (2 : Int32) (3 : Int32) = false)) ?_
  refine R1 (XS.aloadN X139.here hx rfl (dq (dg dlf 10 rfl)) rfl rfl) ?_
  refine R1 (XS.iloadN X139.here hx rfl (dq (dg dlf 11 rfl)) rfl) ?_
  refine R1 (XS.aloadN X139.here hx rfl (dq (dg dlf 12 rfl)) rfl rfl) ?_
  show Rch p e below T139 (mkF m 17 #[vR ea, vR a128, vI (2 : Int32)] [(.ref ea), (.int (2 : Int32)), (.ref a128)]) _
  refine R1 (XS.iloadN X139.here hx rfl (dq (dg dlf 13 rfl)) rfl) ?_
  show Rch p e below T139 (mkF m 18 #[vR ea, vR a128, vI (2 : Int32)] [(.int (2 : Int32)), (.ref ea), (.int (2 : Int32)), (.ref a128)]) _
  obtain ⟨kk142, M142⟩ := ((A.ext Ex140)).arh
  refine R0_ (aalA X139 hx hZ e139 M142 rfl ⟨by decide, by decide⟩ (v := (.ref y2)) rfl (g := (mkF m 18 #[vR ea, vR a128, vI (2 : Int32)] [(.int (2 : Int32)), (.ref ea), (.int (2 : Int32)), (.ref a128)])) rfl rfl (dq (dg dlf 14 rfl))) ?_
  show Rch p e below T139 (mkF m 19 #[vR ea, vR a128, vI (2 : Int32)] [(.ref y2), (.int (2 : Int32)), (.ref a128)]) _
  obtain ⟨_, _, ⟨T143, L143, k143, n143⟩, -, X143, ⟨Lc143, hQ143, l143, y143, z143⟩, st143⟩ := Jvm.LawKit.callS X139 hx (y := mN23) hown (mw hZ hw 395 rfl) (mw hZ hw 247 rfl) (mw hZ hw 126 rfl) (mw hZ hw 248 rfl) (by decide) (backOf (W := 2) (rm_rnn l Z a0 hw [] y2 h139 n0 (Nat.le_trans Z0 Ex140.1)) hZ (wq hw 248 rfl) (wq hw 126 rfl) (by decide) (by decide)) (g := (mkF m 19 #[vR ea, vR a128, vI (2 : Int32)] [(.ref y2), (.int (2 : Int32)), (.ref a128)])) rfl (by rw [hml]; rfl) (argsL := [(.ref y2)]) (rest := [(.int (2 : Int32)), (.ref a128)]) (lenOf pd_9 rfl) rfl (w0 rfl) (dq (dg dlf 15 rfl)) (fun _ _ => ⟨rfl, e139, (by decide : 1 + 0 ≤ _), (by decide : 3 + 0 ≤ _)⟩)
  dsimp only [Pt.U, Pt.locs, Pt.cells, Pt.slots] at X143 l143 y143 z143 st143 hQ143
  subst l143 y143 z143
  obtain ⟨rfl, Nq143, e143⟩ := hQ143
  have N143 := Fr.app N139 Nq143
  refine R0_ st143 ?_
  show Rch p e below T143 (mkF m 22 #[vR ea, vR a128, vI (2 : Int32)] [(.ref y2), (.int (2 : Int32)), (.ref a128)]) _
  obtain ⟨T144, h144, L144, sl144, X144, e144, W144, O144, N144, st144⟩ := stRp X143 hx hZ e143 O139 N143 (Nat.le_trans Z0 le130) (Ins.of_exa (EX2.ext Ex140) (wq hw 85 rfl)) ⟨by decide, by decide⟩ rfl (g := (mkF m 22 #[vR ea, vR a128, vI (2 : Int32)] [(.ref y2), (.int (2 : Int32)), (.ref a128)])) rfl rfl (dq (dg dlf 16 rfl))
  have Ex145 : Ext h0 h144 := extWr Ex140 W144 le130
  refine R0_ st144 ?_
  show Rch p e below T144 (mkF m 23 #[vR ea, vR a128, vI (2 : Int32)] []) _
  refine R1 (XS.iinc X144.here hx rfl (dq (dg dlf 17 rfl)) rfl (l' := #[vR ea, vR a128, vI (3 : Int32)]) rfl) ?_
  refine R1 (XS.goto X144.here hx rfl (pc0 := 26) (pc' := 8) rfl (dq (dg dlf 18 rfl)) (by decide) (by decide)) ?_
  refine R1 (XS.iloadN X144.here hx rfl (dq (dg dlf 6 rfl)) rfl) ?_
  refine R1 (XS.aloadN X144.here hx rfl (dq (dg dlf 7 rfl)) rfl rfl) ?_
  show Rch p e below T144 (mkF m 10 #[vR ea, vR a128, vI (3 : Int32)] [(.ref ea), (.int (3 : Int32))]) _
  obtain ⟨kk146, M146⟩ := ((A.ext Ex145)).arh
  refine R0_ (alenA X144 hx hZ e144 M146 (g := (mkF m 10 #[vR ea, vR a128, vI (3 : Int32)] [(.ref ea), (.int (3 : Int32))])) rfl rfl (dq (dg dlf 8 rfl))) ?_
  show Rch p e below T144 (mkF m 11 #[vR ea, vR a128, vI (3 : Int32)] [(.int (3 : Int32)), (.int (3 : Int32))]) _
  refine R1 (XS.icmpYes X144.here hx rfl (pc0 := 11) (pc' := 29) rfl (dq (dg dlf 9 rfl)) rfl (by decide : if_icmp.holds .ge (3 : Int32) (3 : Int32) = true) (by decide) (by decide)) ?_
  show Rch p e below T144 (mkF m 29 #[vR ea, vR a128, vI (3 : Int32)] []) _
  obtain ⟨T147, h147, X147, e147, E147, A147, D147, -, st147⟩ := newO X144 hx hZ hown (wq hw 212 rfl) (wq hw 396 rfl) (wq hw 397 rfl) e144 (g := (mkF m 29 #[vR ea, vR a128, vI (3 : Int32)] [])) rfl (dq (dg dlf 19 rfl)) (by decide) (by decide)
  obtain ⟨a147, g147⟩ : ∃ z, z = h144.size := ⟨_, rfl⟩
  rw [← g147] at A147 D147 st147
  have Ex148 : Ext h0 h147 := Ex145.tr E147
  have Ex149 : Ext h144 h147 := E147
  have le150 : h0.size ≤ a147 := Nat.le_trans Ex145.1 (Nat.le_of_eq g147.symm)
  refine R0_ st147 ?_
  show Rch p e below T147 (mkF m 32 #[vR ea, vR a128, vI (3 : Int32)] [(.ref a147)]) _
  refine R1 (XS.dup X147.here hx rfl (dq (dg dlf 20 rfl)) rfl rfl) ?_
  refine R1 (XS.aloadN X147.here hx rfl (dq (dg dlf 21 rfl)) rfl rfl) ?_
  refine R1 (XS.iconst X147.here hx rfl (dq (dg dlf 22 rfl)) ) ?_
  show Rch p e below T147 (mkF m 35 #[vR ea, vR a128, vI (3 : Int32)] [(.int (0 : Int32)), (.ref a128), (.ref a147), (.ref a147)]) _
  obtain ⟨_, _, ⟨T152, L152, k152, n152⟩, -, X152, ⟨Lc152, hQ152, l152, y152, z152⟩, st152⟩ := X147.specialBackNest hx (y := mN25) rfl hown (Cond.methodLinkNest_wide hZ (wq hw 398 rfl) :) (mw hZ hw 399 rfl) (mw hZ hw 401 rfl) (by decide) (backOf (W := 1) (rm_lnInit l Z a0 hw [] a147 a128 (3 : Int32) [(.ref y0), (.ref y1), (.ref y2)] h147 n0 (Nat.le_trans Z0 Ex148.1) (Nat.le_trans Z0 le150) A147 (D147 (Or.inr (wq hw 407 rfl)) (ty := (.array (.object "java/lang/Object"))) (by decide)) (D147 (Or.inr (wq hw 409 rfl)) (ty := .boolean) (by decide)) (O144.ext Ex149)) hZ (wq hw 401 rfl) (wq hw 397 rfl) (by decide) (by decide)) (g := (mkF m 35 #[vR ea, vR a128, vI (3 : Int32)] [(.int (0 : Int32)), (.ref a128), (.ref a147), (.ref a147)])) rfl (by rw [hml]; rfl) (Steps.refl _) (a := a147) (argsL := [(.ref a128), (.int (0 : Int32))]) (rest := [(.ref a147)]) (lenOf pd_14 rfl) rfl (w0 rfl) (dq (dg dlf 23 rfl)) (fun _ _ => ⟨rfl, e147, (by decide : 2 + 0 ≤ _), (by decide : 5 + 0 ≤ _)⟩)
  dsimp only [Pt.U, Pt.locs, Pt.cells, Pt.slots] at X152 l152 y152 z152 st152 hQ152
  subst l152 y152 z152
  obtain ⟨rfl, Nq152, K152, E152, F152, O152⟩ := hQ152
  have N152 := Fr.app N144 Nq152
  have Ex153 : Ext h0 T152.heap := extKeep Ex148 K152 (allS le150 all0)
  refine R2 st152 ?_
  show Rch p e below T152 (mkF m 38 #[vR ea, vR a128, vI (3 : Int32)] [(.ref a147)]) _
  exact Rch.fin (Q := Q_lfa3 Z ea y0 y1 y2 h0 n0) X152 (v := some (.ref a147)) (fun h => by rw [Bd.returns] at h; cases h) (BodyLoose.notSynchronized Bd) (fun fs hr => retR X152 hx Bd.returns rfl rfl (dq (dg dlf 24 rfl)) hr) ⟨a147, rfl, N152, Ex153, le150, E152, a128, F152, O152⟩ (by decide) (by decide)
def Q_lof3 (Z : State) (ea y0 y1 y2 : Addr) (h0 : Heap) (n0 : Nat) (v : Option Value) (h : Heap) (L : List Loc) : Prop := ∃ t, v = some (.ref t) ∧ Fr n0 L ∧ Ext h0 h ∧ h0.size ≤ t ∧ LNp Z h t (3 : Int32) [(.ref y0), (.ref y1), (.ref y2)]
set_option maxRecDepth 65536 in
set_option maxHeartbeats 40000000 in
theorem rm_lof3 (l : Launch) (Z : State) (a0 : Array Value) (hw : ∀ d ∈ tables_1, d.before a0 Z = true) (ws : List Jvm.Cond) (ea y0 y1 y2 : Addr) (h0 : Heap) (n0 : Nat) (Z0 : n0 ≤ h0.size) (A : Oar Z h0 ea (3 : Int32) [(.ref y0), (.ref y1), (.ref y2)]) (EX0 : Exa Z h0 y0 "java/lang/String") (EX1 : Exa Z h0 y1 "java/lang/String") (EX2 : Exa Z h0 y2 "java/lang/String") :
    MetFree l mN26 (head1 (Jvm.Cond.code mN26 jdk_40_method_47_code 2 (some (.object "java/util/List")) :: ws) rO21) (fun a U => a = #[(.ref ea)] ∧ Z.Warmed39 U.vm ∧ U.heap = h0) (fun _ _ _ _ _ => True) (fun _ U o U' => ∃ v L, o = .returned v ∧ Q_lof3 Z ea y0 y1 y2 h0 n0 v U'.heap L ∧ FrameEnd U o U' L rO21.cells rO21.slots) := by
  refine MetFree.of_bodySF pn_lof2 hisR ?_
  intro p e s m args below meth c s₁ Bd hml0 hP hK
  obtain ⟨rfl, hZ, hh⟩ := hP
  have hx := Bd.exec
  have hby := Bd.bytes
  have dq := @hb _ _ hby
  have hml : c.maxLocals = 2 := hml0
  have hown : s.vm.findClass "java/util/List" = some m.cls := findClass_of_methodNamed Bd.named
  have X0 : Stand p l e rO21 s m #[(.ref ea)] below meth c s₁ [] 0 0 := Stand.of_body Bd
  have e0 : s₁.heap = h0 := by rw [← hh, Bd.state]; rfl
  have N0 := Fr.nil n0
  show Rch p e below s₁ (entryFrame m #[(.ref ea)] 2) (fun U o => ∃ v L, o = .returned v ∧ Q_lof3 Z ea y0 y1 y2 h0 n0 v U.heap L ∧ FrameEnd s o U L rO21.cells rO21.slots)
  refine Rch.cast (ef_lof2 m ea) ?_
  show Rch p e below s₁ (mkF m 0 #[vR ea, .unset] []) _
  refine R1 (XS.aloadN X0.here hx rfl (dq (dg dlo 0 rfl)) rfl rfl) ?_
  show Rch p e below s₁ (mkF m 1 #[vR ea, .unset] [(.ref ea)]) _
  obtain ⟨kk155, M155⟩ := (A).arh
  refine R0_ (alenA X0 hx hZ e0 M155 (g := (mkF m 1 #[vR ea, .unset] [(.ref ea)])) rfl rfl (dq (dg dlo 1 rfl))) ?_
  show Rch p e below s₁ (mkF m 2 #[vR ea, .unset] [(.int (3 : Int32))]) _
  refine R1 (XS.tswOut X0.here hx rfl (pc0 := 2) (pc' := 59) rfl (dq (dg dlo 2 rfl)) rfl (by decide) (by decide) (by decide)) ?_
  refine R1 (XS.aloadN X0.here hx rfl (dq (dg dlo 13 rfl)) rfl rfl) ?_
  show Rch p e below s₁ (mkF m 60 #[vR ea, .unset] [(.ref ea)]) _
  obtain ⟨_, _, ⟨T156, L156, k156, n156⟩, -, X156, ⟨Lc156, hQ156, l156, y156, z156⟩, st156⟩ := Jvm.LawKit.callS X0 hx (y := mN30) hown (mw hZ hw 391 rfl) (mw hZ hw 392 rfl) (mw hZ hw 205 rfl) (mw hZ hw 393 rfl) (by decide) (backOf (W := 0) (rm_lfa3 l Z a0 hw [] ea y0 y1 y2 h0 n0 Z0 A EX0 EX1 EX2) hZ (wq hw 393 rfl) (wq hw 205 rfl) (by decide) (by decide)) (g := (mkF m 60 #[vR ea, .unset] [(.ref ea)])) rfl (by rw [hml]; rfl) (argsL := [(.ref ea)]) (rest := []) (lenOf pd_12 rfl) rfl (w0 rfl) (dq (dg dlo 14 rfl)) (fun _ _ => ⟨rfl, e0, (by decide : 0 + 2 ≤ _), (by decide : 0 + 5 ≤ _)⟩)
  dsimp only [Pt.U, Pt.locs, Pt.cells, Pt.slots] at X156 l156 y156 z156 st156 hQ156
  subst l156 y156 z156
  obtain ⟨t156, rfl, Nq156, E156, le156_, R156⟩ := hQ156
  have N156 := Fr.app N0 Nq156
  have Ex157 : Ext h0 T156.heap := E156
  refine R0_ st156 ?_
  show Rch p e below T156 (mkF m 63 #[vR ea, .unset] [(.ref t156)]) _
  exact Rch.fin (Q := Q_lof3 Z ea y0 y1 y2 h0 n0) X156 (v := some (.ref t156)) (fun h => by rw [Bd.returns] at h; cases h) (BodyLoose.notSynchronized Bd) (fun fs hr => retR X156 hx Bd.returns rfl rfl (dq (dg dlo 15 rfl)) hr) ⟨t156, rfl, N156, Ex157, le156_, R156⟩ (by decide) (by decide)
def Q_lcp3 (Z : State) (ta ea mr y0 y1 y2 : Addr) (h0 : Heap) (n0 : Nat) (v : Option Value) (h : Heap) (L : List Loc) : Prop := ∃ t, v = some (.ref t) ∧ Fr n0 L ∧ Ext h0 h ∧ h0.size ≤ t ∧ LNp Z h t (3 : Int32) [(.ref y0), (.ref y1), (.ref y2)]
set_option maxRecDepth 65536 in
set_option maxHeartbeats 40000000 in
theorem rm_lcp3 (l : Launch) (Z : State) (a0 : Array Value) (hw : ∀ d ∈ tables_1, d.before a0 Z = true) (ws : List Jvm.Cond) (ta ea mr y0 y1 y2 : Addr) (h0 : Heap) (n0 : Nat) (Z0 : n0 ≤ h0.size) (A : Al Z h0 ta ea (3 : Int32) (3 : Int32) [(.ref y0), (.ref y1), (.ref y2)]) (MR : Mi Z "[Ljava/lang/Object;" mr) (EX0 : Exa Z h0 y0 "java/lang/String") (EX1 : Exa Z h0 y1 "java/lang/String") (EX2 : Exa Z h0 y2 "java/lang/String") :
    MetFree l mN27 (head1 (Jvm.Cond.code mN27 jdk_56_method_3_code 2 (some (.object "java/util/List")) :: ws) rO22) (fun a U => a = #[(.ref ta)] ∧ Z.Warmed39 U.vm ∧ U.heap = h0) (fun _ _ _ _ _ => True) (fun _ U o U' => ∃ v L, o = .returned v ∧ Q_lcp3 Z ta ea mr y0 y1 y2 h0 n0 v U'.heap L ∧ FrameEnd U o U' L rO22.cells rO22.slots) := by
  refine MetFree.of_bodySF pn_lcp2 hisR ?_
  intro p e s m args below meth c s₁ Bd hml0 hP hK
  obtain ⟨rfl, hZ, hh⟩ := hP
  have hx := Bd.exec
  have hby := Bd.bytes
  have dq := @hb _ _ hby
  have hml : c.maxLocals = 2 := hml0
  have hown : s.vm.findClass "java/util/ImmutableCollections" = some m.cls := findClass_of_methodNamed Bd.named
  have X0 : Stand p l e rO22 s m #[(.ref ta)] below meth c s₁ [] 0 0 := Stand.of_body Bd
  have e0 : s₁.heap = h0 := by rw [← hh, Bd.state]; rfl
  have N0 := Fr.nil n0
  show Rch p e below s₁ (entryFrame m #[(.ref ta)] 2) (fun U o => ∃ v L, o = .returned v ∧ Q_lcp3 Z ta ea mr y0 y1 y2 h0 n0 v U.heap L ∧ FrameEnd s o U L rO22.cells rO22.slots)
  refine Rch.cast (ef_lof2 m ta) ?_
  show Rch p e below s₁ (mkF m 0 #[vR ta, .unset] []) _
  refine R1 (XS.aloadN X0.here hx rfl (dq (dg dlc 0 rfl)) rfl rfl) ?_
  show Rch p e below s₁ (mkF m 1 #[vR ta, .unset] [(.ref ta)]) _
  obtain ⟨T158, X158, e158, st158⟩ := instNo X0 hx hZ hown (wq hw 207 rfl) e0 A.1 (not_l12 hw) (g := (mkF m 1 #[vR ta, .unset] [(.ref ta)])) rfl rfl (dq (dg dlc 1 rfl))
  refine R0_ st158 ?_
  show Rch p e below T158 (mkF m 4 #[vR ta, .unset] [(.int (0 : Int32))]) _
  refine R1 (XS.ifNo X158.here hx rfl (dq (dg dlc 2 rfl)) rfl (by decide : ifCond.holds .ne (0 : Int32) = false)) ?_
  refine R1 (XS.aloadN X158.here hx rfl (dq (dg dlc 3 rfl)) rfl rfl) ?_
  show Rch p e below T158 (mkF m 8 #[vR ta, .unset] [(.ref ta)]) _
  obtain ⟨T159, X159, e159, st159⟩ := instNo X158 hx hZ hown (wq hw 212 rfl) e158 A.1 (not_ln hw) (g := (mkF m 8 #[vR ta, .unset] [(.ref ta)])) rfl rfl (dq (dg dlc 4 rfl))
  refine R0_ st159 ?_
  show Rch p e below T159 (mkF m 11 #[vR ta, .unset] [(.int (0 : Int32))]) _
  refine R1 (XS.ifYes X159.here hx rfl (pc0 := 11) (pc' := 31) rfl (dq (dg dlc 5 rfl)) rfl (by decide : ifCond.holds .eq (0 : Int32) = true) (by decide) (by decide)) ?_
  refine R1 (XS.aloadN X159.here hx rfl (dq (dg dlc 6 rfl)) rfl rfl) ?_
  show Rch p e below T159 (mkF m 32 #[vR ta, .unset] [(.ref ta)]) _
  obtain ⟨cq160, kq160, q160a, q160b, q160c⟩ := isOf hZ e159 A.1
  obtain ⟨_, _, ⟨T160, L160, k160, n160⟩, -, X160, ⟨Lc160, hQ160, l160, y160, z160⟩, st160⟩ := X159.interfaceBack hx (xi := mN28) (y := mN9) hown (mw hZ hw 213 rfl) (mw hZ hw 214 rfl) (mw hZ hw 215 rfl) (mw hZ hw 216 rfl) (mw hZ hw 217 rfl) (mw hZ hw 218 rfl) (mw hZ hw 219 rfl) (mw hZ hw 167 rfl) (by decide) (backOf (W := 0) (rm_alEmp l Z a0 hw [] ta ea (3 : Int32) (3 : Int32) [(.ref y0), (.ref y1), (.ref y2)] h0 n0 Z0 A (by decide)) hZ (wq hw 220 rfl) (wq hw 33 rfl) (by decide) (by decide)) q160a q160b q160c (g := (mkF m 32 #[vR ta, .unset] [(.ref ta)])) rfl (by rw [hml]; rfl) (Steps.refl _) (argsL := []) (rest := []) (lenOf pd_11 rfl) rfl (w0 rfl) (dq (dg dlc 7 rfl)) (fun _ _ => ⟨rfl, e159, (by decide : 0 + 0 ≤ _), (by decide : 0 + 0 ≤ _)⟩)
  dsimp only [Pt.U, Pt.locs, Pt.cells, Pt.slots] at X160 l160 y160 z160 st160 hQ160
  subst l160 y160 z160
  obtain ⟨rfl, Nq160, e160⟩ := hQ160
  have N160 := Fr.app N0 Nq160
  refine R2 st160 ?_
  show Rch p e below T160 (mkF m 37 #[vR ta, .unset] [(.int (0 : Int32))]) _
  refine R1 (XS.ifYes X160.here hx rfl (pc0 := 37) (pc' := 44) rfl (dq (dg dlc 8 rfl)) rfl (by decide : ifCond.holds .eq (0 : Int32) = true) (by decide) (by decide)) ?_
  refine R1 (XS.aloadN X160.here hx rfl (dq (dg dlc 9 rfl)) rfl rfl) ?_
  show Rch p e below T160 (mkF m 45 #[vR ta, .unset] [(.ref ta)]) _
  obtain ⟨cq161, kq161, q161a, q161b, q161c⟩ := isOf hZ e160 A.1
  obtain ⟨_, _, ⟨T161, L161, k161, n161⟩, -, X161, ⟨Lc161, hQ161, l161, y161, z161⟩, st161⟩ := X160.interfaceBack hx (xi := mN20) (y := mN17) hown (mw hZ hw 221 rfl) (mw hZ hw 161 rfl) (mw hZ hw 162 rfl) (mw hZ hw 163 rfl) (mw hZ hw 164 rfl) (mw hZ hw 165 rfl) (mw hZ hw 166 rfl) (mw hZ hw 167 rfl) (by decide) (backOf (W := 0) (rm_toArr l Z a0 hw [] ta ea mr (3 : Int32) (3 : Int32) [(.ref y0), (.ref y1), (.ref y2)] [(.ref y0), (.ref y1), (.ref y2)] h0 n0 Z0 A MR (by decide) (by decide) (by decide) rfl (fun v hv => by simp only [List.mem_cons, List.not_mem_nil, or_false] at hv; rcases hv with rfl | rfl | rfl <;> first | exact ⟨_, rfl, EX0⟩ | exact ⟨_, rfl, EX1⟩ | exact ⟨_, rfl, EX2⟩)) hZ (wq hw 168 rfl) (wq hw 33 rfl) (by decide) (by decide)) q161a q161b q161c (g := (mkF m 45 #[vR ta, .unset] [(.ref ta)])) rfl (by rw [hml]; rfl) (Steps.refl _) (argsL := []) (rest := []) (lenOf pd_3 rfl) rfl (w0 rfl) (dq (dg dlc 10 rfl)) (fun _ _ => ⟨rfl, e160, (by decide : 0 + 1 ≤ _), (by decide : 0 + 4 ≤ _)⟩)
  dsimp only [Pt.U, Pt.locs, Pt.cells, Pt.slots] at X161 l161 y161 z161 st161 hQ161
  subst l161 y161 z161
  obtain ⟨b161, rfl, Nq161, E161, le161_, O161⟩ := hQ161
  have N161 := Fr.app N160 Nq161
  have Ex162 : Ext h0 T161.heap := E161
  refine R2 st161 ?_
  show Rch p e below T161 (mkF m 50 #[vR ta, .unset] [(.ref b161)]) _
  obtain ⟨_, _, ⟨T163, L163, k163, n163⟩, -, X163, ⟨Lc163, hQ163, l163, y163, z163⟩, st163⟩ := Jvm.LawKit.callS X161 hx (y := mN26) hown (mw hZ hw 222 rfl) (mw hZ hw 223 rfl) (mw hZ hw 201 rfl) (mw hZ hw 224 rfl) (by decide) (backOf (W := 0) (rm_lof3 l Z a0 hw [] b161 y0 y1 y2 T161.heap n0 (Nat.le_trans Z0 Ex162.1) O161 (EX0.ext Ex162) (EX1.ext Ex162) (EX2.ext Ex162)) hZ (wq hw 224 rfl) (wq hw 201 rfl) (by decide) (by decide)) (g := (mkF m 50 #[vR ta, .unset] [(.ref b161)])) rfl (by rw [hml]; rfl) (argsL := [(.ref b161)]) (rest := []) (lenOf pd_12 rfl) rfl (w0 rfl) (dq (dg dlc 11 rfl)) (fun _ _ => ⟨rfl, rfl, (by decide : 1 + 2 ≤ _), (by decide : 4 + 5 ≤ _)⟩)
  dsimp only [Pt.U, Pt.locs, Pt.cells, Pt.slots] at X163 l163 y163 z163 st163 hQ163
  subst l163 y163 z163
  obtain ⟨t163, rfl, Nq163, E163, le163_, R163⟩ := hQ163
  have N163 := Fr.app N161 Nq163
  have Ex164 : Ext h0 T163.heap := Ex162.tr E163
  refine R0_ st163 ?_
  show Rch p e below T163 (mkF m 53 #[vR ta, .unset] [(.ref t163)]) _
  exact Rch.fin (Q := Q_lcp3 Z ta ea mr y0 y1 y2 h0 n0) X163 (v := some (.ref t163)) (fun h => by rw [Bd.returns] at h; cases h) (BodyLoose.notSynchronized Bd) (fun fs hr => retR X163 hx Bd.returns rfl rfl (dq (dg dlc 12 rfl)) hr) ⟨t163, rfl, N163, Ex164, Nat.le_trans E161.1 le163_, R163⟩ (by decide) (by decide)
def Q_cpo3 (Z : State) (ta ea mr y0 y1 y2 : Addr) (h0 : Heap) (n0 : Nat) (v : Option Value) (h : Heap) (L : List Loc) : Prop := ∃ t, v = some (.ref t) ∧ Fr n0 L ∧ Ext h0 h ∧ h0.size ≤ t ∧ LNp Z h t (3 : Int32) [(.ref y0), (.ref y1), (.ref y2)]
set_option maxRecDepth 65536 in
set_option maxHeartbeats 40000000 in
theorem rm_cpo3 (l : Launch) (Z : State) (a0 : Array Value) (hw : ∀ d ∈ tables_1, d.before a0 Z = true) (ws : List Jvm.Cond) (ta ea mr y0 y1 y2 : Addr) (h0 : Heap) (n0 : Nat) (Z0 : n0 ≤ h0.size) (A : Al Z h0 ta ea (3 : Int32) (3 : Int32) [(.ref y0), (.ref y1), (.ref y2)]) (MR : Mi Z "[Ljava/lang/Object;" mr) (EX0 : Exa Z h0 y0 "java/lang/String") (EX1 : Exa Z h0 y1 "java/lang/String") (EX2 : Exa Z h0 y2 "java/lang/String") :
    MetFree l mN29 (head1 (Jvm.Cond.code mN29 jdk_40_method_48_code 1 (some (.object "java/util/List")) :: ws) rO23) (fun a U => a = #[(.ref ta)] ∧ Z.Warmed39 U.vm ∧ U.heap = h0) (fun _ _ _ _ _ => True) (fun _ U o U' => ∃ v L, o = .returned v ∧ Q_cpo3 Z ta ea mr y0 y1 y2 h0 n0 v U'.heap L ∧ FrameEnd U o U' L rO23.cells rO23.slots) := by
  refine MetFree.of_bodySF pn_cpo2 hisR ?_
  intro p e s m args below meth c s₁ Bd hml0 hP hK
  obtain ⟨rfl, hZ, hh⟩ := hP
  have hx := Bd.exec
  have hby := Bd.bytes
  have dq := @hb _ _ hby
  have hml : c.maxLocals = 1 := hml0
  have hown : s.vm.findClass "java/util/List" = some m.cls := findClass_of_methodNamed Bd.named
  have X0 : Stand p l e rO23 s m #[(.ref ta)] below meth c s₁ [] 0 0 := Stand.of_body Bd
  have e0 : s₁.heap = h0 := by rw [← hh, Bd.state]; rfl
  have N0 := Fr.nil n0
  show Rch p e below s₁ (entryFrame m #[(.ref ta)] 1) (fun U o => ∃ v L, o = .returned v ∧ Q_cpo3 Z ta ea mr y0 y1 y2 h0 n0 v U.heap L ∧ FrameEnd s o U L rO23.cells rO23.slots)
  refine Rch.cast (ef_acInit m ta) ?_
  show Rch p e below s₁ (mkF m 0 #[vR ta] []) _
  refine R1 (XS.aloadN X0.here hx rfl (dq (dg dlp 0 rfl)) rfl rfl) ?_
  show Rch p e below s₁ (mkF m 1 #[vR ta] [(.ref ta)]) _
  obtain ⟨_, _, ⟨T166, L166, k166, n166⟩, -, X166, ⟨Lc166, hQ166, l166, y166, z166⟩, st166⟩ := Jvm.LawKit.callS X0 hx (y := mN27) hown (mw hZ hw 203 rfl) (mw hZ hw 204 rfl) (mw hZ hw 205 rfl) (mw hZ hw 206 rfl) (by decide) (backOf (W := 0) (rm_lcp3 l Z a0 hw [] ta ea mr y0 y1 y2 h0 n0 Z0 A MR EX0 EX1 EX2) hZ (wq hw 206 rfl) (wq hw 205 rfl) (by decide) (by decide)) (g := (mkF m 1 #[vR ta] [(.ref ta)])) rfl (by rw [hml]; rfl) (argsL := [(.ref ta)]) (rest := []) (lenOf pd_13 rfl) rfl (w0 rfl) (dq (dg dlp 1 rfl)) (fun _ _ => ⟨rfl, e0, (by decide : 0 + 3 ≤ _), (by decide : 0 + 9 ≤ _)⟩)
  dsimp only [Pt.U, Pt.locs, Pt.cells, Pt.slots] at X166 l166 y166 z166 st166 hQ166
  subst l166 y166 z166
  obtain ⟨t166, rfl, Nq166, E166, le166_, R166⟩ := hQ166
  have N166 := Fr.app N0 Nq166
  have Ex167 : Ext h0 T166.heap := E166
  refine R0_ st166 ?_
  show Rch p e below T166 (mkF m 4 #[vR ta] [(.ref t166)]) _
  exact Rch.fin (Q := Q_cpo3 Z ta ea mr y0 y1 y2 h0 n0) X166 (v := some (.ref t166)) (fun h => by rw [Bd.returns] at h; cases h) (BodyLoose.notSynchronized Bd) (fun fs hr => retR X166 hx Bd.returns rfl rfl (dq (dg dlp 2 rfl)) hr) ⟨t166, rfl, N166, Ex167, le166_, R166⟩ (by decide) (by decide)
def Q_lfa4 (Z : State) (ea y0 y1 y2 y3 : Addr) (h0 : Heap) (n0 : Nat) (v : Option Value) (h : Heap) (L : List Loc) : Prop := ∃ t, v = some (.ref t) ∧ Fr n0 L ∧ Ext h0 h ∧ h0.size ≤ t ∧ LNp Z h t (4 : Int32) [(.ref y0), (.ref y1), (.ref y2), (.ref y3)]
set_option maxRecDepth 65536 in
set_option maxHeartbeats 40000000 in
theorem rm_lfa4 (l : Launch) (Z : State) (a0 : Array Value) (hw : ∀ d ∈ tables_1, d.before a0 Z = true) (ws : List Jvm.Cond) (ea y0 y1 y2 y3 : Addr) (h0 : Heap) (n0 : Nat) (Z0 : n0 ≤ h0.size) (A : Oar Z h0 ea (4 : Int32) [(.ref y0), (.ref y1), (.ref y2), (.ref y3)]) (EX0 : Exa Z h0 y0 "java/lang/String") (EX1 : Exa Z h0 y1 "java/lang/String") (EX2 : Exa Z h0 y2 "java/lang/String") (EX3 : Exa Z h0 y3 "java/lang/String") :
    MetFree l mN30 (head1 (Jvm.Cond.code mN30 jdk_56_method_4_code 3 (some (.object "java/util/List")) :: ws) rO24) (fun a U => a = #[(.ref ea)] ∧ Z.Warmed39 U.vm ∧ U.heap = h0) (fun _ _ _ _ _ => True) (fun _ U o U' => ∃ v L, o = .returned v ∧ Q_lfa4 Z ea y0 y1 y2 y3 h0 n0 v U'.heap L ∧ FrameEnd U o U' L rO24.cells rO24.slots) := by
  refine MetFree.of_bodySF pn_lfa3 hisR ?_
  intro p e s m args below meth c s₁ Bd hml0 hP hK
  obtain ⟨rfl, hZ, hh⟩ := hP
  have hx := Bd.exec
  have hby := Bd.bytes
  have dq := @hb _ _ hby
  have hml : c.maxLocals = 3 := hml0
  have hown : s.vm.findClass "java/util/ImmutableCollections" = some m.cls := findClass_of_methodNamed Bd.named
  have X0 : Stand p l e rO24 s m #[(.ref ea)] below meth c s₁ [] 0 0 := Stand.of_body Bd
  have e0 : s₁.heap = h0 := by rw [← hh, Bd.state]; rfl
  have N0 := Fr.nil n0
  show Rch p e below s₁ (entryFrame m #[(.ref ea)] 3) (fun U o => ∃ v L, o = .returned v ∧ Q_lfa4 Z ea y0 y1 y2 y3 h0 n0 v U.heap L ∧ FrameEnd s o U L rO24.cells rO24.slots)
  refine Rch.cast (ef_lfa3 m ea) ?_
  show Rch p e below s₁ (mkF m 0 #[vR ea, .unset, .unset] []) _
  refine R1 (XS.aloadN X0.here hx rfl (dq (dg dlf 0 rfl)) rfl rfl) ?_
  show Rch p e below s₁ (mkF m 1 #[vR ea, .unset, .unset] [(.ref ea)]) _
  obtain ⟨kk168, M168⟩ := (A).arh
  refine R0_ (alenA X0 hx hZ e0 M168 (g := (mkF m 1 #[vR ea, .unset, .unset] [(.ref ea)])) rfl rfl (dq (dg dlf 1 rfl))) ?_
  show Rch p e below s₁ (mkF m 2 #[vR ea, .unset, .unset] [(.int (4 : Int32))]) _
  obtain ⟨T169, h169, c169, X169, e169, E169, A169, Q169, O169, st169⟩ := newRE X0 hx hZ hown (wq hw 394 rfl) (wq hw 84 rfl) e0 (g := (mkF m 2 #[vR ea, .unset, .unset] [(.int (4 : Int32))])) rfl (dq (dg dlf 2 rfl)) rfl (by decide : ¬ ((4 : Int32) < (0 : Int32))) (cap := 4) (by decide) (by decide) (by decide) (by decide) (ad := "[Ljava/lang/Object;") (by decide)
  obtain ⟨a169, g169⟩ : ∃ z, z = h0.size := ⟨_, rfl⟩
  rw [← g169] at A169 Q169 st169
  have Ex170 : Ext h0 h169 := E169
  have le171 : h0.size ≤ a169 := Nat.le_of_eq g169.symm
  refine R0_ st169 ?_
  show Rch p e below T169 (mkF m 5 #[vR ea, .unset, .unset] [(.ref a169)]) _
  have OA169 : Oar Z h169 a169 (4 : Int32) [] := ⟨Q169, c169, Arv.new A169 (by decide : ¬ ((4 : Int32) < (0 : Int32))), O169⟩
  refine R1 (XS.astoreN X169.here hx rfl (dq (dg dlf 3 rfl)) rfl rfl (l' := #[vR ea, vR a169, .unset]) rfl) ?_
  refine R1 (XS.iconst X169.here hx rfl (dq (dg dlf 4 rfl)) ) ?_
  refine R1 (XS.istoreN X169.here hx rfl (dq (dg dlf 5 rfl)) rfl (l' := #[vR ea, vR a169, vI (0 : Int32)]) rfl) ?_
  refine R1 (XS.iloadN X169.here hx rfl (dq (dg dlf 6 rfl)) rfl) ?_
  show Rch p e below T169 (mkF m 9 #[vR ea, vR a169, vI (0 : Int32)] [(.int (0 : Int32))]) _
  refine R1 (XS.aloadN X169.here hx rfl (dq (dg dlf 7 rfl)) rfl rfl) ?_
  show Rch p e below T169 (mkF m 10 #[vR ea, vR a169, vI (0 : Int32)] [(.ref ea), (.int (0 : Int32))]) _
  obtain ⟨kk172, M172⟩ := ((A.ext Ex170)).arh
  refine R0_ (alenA X169 hx hZ e169 M172 (g := (mkF m 10 #[vR ea, vR a169, vI (0 : Int32)] [(.ref ea), (.int (0 : Int32))])) rfl rfl (dq (dg dlf 8 rfl))) ?_
  show Rch p e below T169 (mkF m 11 #[vR ea, vR a169, vI (0 : Int32)] [(.int (4 : Int32)), (.int (0 : Int32))]) _
  refine R1 (XS.icmpNo X169.here hx rfl (dq (dg dlf 9 rfl)) rfl (by decide : if_icmp.holds .ge (0 : Int32) (4 : Int32) = false)) ?_
  refine R1 (XS.aloadN X169.here hx rfl (dq (dg dlf 10 rfl)) rfl rfl) ?_
  refine R1 (XS.iloadN X169.here hx rfl (dq (dg dlf 11 rfl)) rfl) ?_
  refine R1 (XS.aloadN X169.here hx rfl (dq (dg dlf 12 rfl)) rfl rfl) ?_
  show Rch p e below T169 (mkF m 17 #[vR ea, vR a169, vI (0 : Int32)] [(.ref ea), (.int (0 : Int32)), (.ref a169)]) _
  refine R1 (XS.iloadN X169.here hx rfl (dq (dg dlf 13 rfl)) rfl) ?_
  show Rch p e below T169 (mkF m 18 #[vR ea, vR a169, vI (0 : Int32)] [(.int (0 : Int32)), (.ref ea), (.int (0 : Int32)), (.ref a169)]) _
  obtain ⟨kk173, M173⟩ := ((A.ext Ex170)).arh
  refine R0_ (aalA X169 hx hZ e169 M173 rfl ⟨by decide, by decide⟩ (v := (.ref y0)) rfl (g := (mkF m 18 #[vR ea, vR a169, vI (0 : Int32)] [(.int (0 : Int32)), (.ref ea), (.int (0 : Int32)), (.ref a169)])) rfl rfl (dq (dg dlf 14 rfl))) ?_
  show Rch p e below T169 (mkF m 19 #[vR ea, vR a169, vI (0 : Int32)] [(.ref y0), (.int (0 : Int32)), (.ref a169)]) _
  obtain ⟨_, _, ⟨T174, L174, k174, n174⟩, -, X174, ⟨Lc174, hQ174, l174, y174, z174⟩, st174⟩ := Jvm.LawKit.callS X169 hx (y := mN23) hown (mw hZ hw 395 rfl) (mw hZ hw 247 rfl) (mw hZ hw 126 rfl) (mw hZ hw 248 rfl) (by decide) (backOf (W := 2) (rm_rnn l Z a0 hw [] y0 h169 n0 (Nat.le_trans Z0 Ex170.1)) hZ (wq hw 248 rfl) (wq hw 126 rfl) (by decide) (by decide)) (g := (mkF m 19 #[vR ea, vR a169, vI (0 : Int32)] [(.ref y0), (.int (0 : Int32)), (.ref a169)])) rfl (by rw [hml]; rfl) (argsL := [(.ref y0)]) (rest := [(.int (0 : Int32)), (.ref a169)]) (lenOf pd_9 rfl) rfl (w0 rfl) (dq (dg dlf 15 rfl)) (fun _ _ => ⟨rfl, e169, (by decide : 1 + 0 ≤ _), (by decide : 4 + 0 ≤ _)⟩)
  dsimp only [Pt.U, Pt.locs, Pt.cells, Pt.slots] at X174 l174 y174 z174 st174 hQ174
  subst l174 y174 z174
  obtain ⟨rfl, Nq174, e174⟩ := hQ174
  have N174 := Fr.app N0 Nq174
  refine R0_ st174 ?_
  show Rch p e below T174 (mkF m 22 #[vR ea, vR a169, vI (0 : Int32)] [(.ref y0), (.int (0 : Int32)), (.ref a169)]) _
  obtain ⟨T175, h175, L175, sl175, X175, e175, W175, O175, N175, st175⟩ := stRp X174 hx hZ e174 OA169 N174 (Nat.le_trans Z0 le171) (Ins.of_exa (EX0.ext Ex170) (wq hw 85 rfl)) ⟨by decide, by decide⟩ rfl (g := (mkF m 22 #[vR ea, vR a169, vI (0 : Int32)] [(.ref y0), (.int (0 : Int32)), (.ref a169)])) rfl rfl (dq (dg dlf 16 rfl))
  have Ex176 : Ext h0 h175 := extWr Ex170 W175 le171
  refine R0_ st175 ?_
  show Rch p e below T175 (mkF m 23 #[vR ea, vR a169, vI (0 : Int32)] []) _
  refine R1 (XS.iinc X175.here hx rfl (dq (dg dlf 17 rfl)) rfl (l' := #[vR ea, vR a169, vI (1 : Int32)]) rfl) ?_
  refine R1 (XS.goto X175.here hx rfl (pc0 := 26) (pc' := 8) rfl (dq (dg dlf 18 rfl)) (by decide) (by decide)) ?_
  refine R1 (XS.iloadN X175.here hx rfl (dq (dg dlf 6 rfl)) rfl) ?_
  refine R1 (XS.aloadN X175.here hx rfl (dq (dg dlf 7 rfl)) rfl rfl) ?_
  show Rch p e below T175 (mkF m 10 #[vR ea, vR a169, vI (1 : Int32)] [(.ref ea), (.int (1 : Int32))]) _
  obtain ⟨kk177, M177⟩ := ((A.ext Ex176)).arh
  refine R0_ (alenA X175 hx hZ e175 M177 (g := (mkF m 10 #[vR ea, vR a169, vI (1 : Int32)] [(.ref ea), (.int (1 : Int32))])) rfl rfl (dq (dg dlf 8 rfl))) ?_
  show Rch p e below T175 (mkF m 11 #[vR ea, vR a169, vI (1 : Int32)] [(.int (4 : Int32)), (.int (1 : Int32))]) _
  refine R1 (XS.icmpNo X175.here hx rfl (dq (dg dlf 9 rfl)) rfl (by decide : if_icmp.holds .ge (1 : Int32) (4 : Int32) = false)) ?_
  refine R1 (XS.aloadN X175.here hx rfl (dq (dg dlf 10 rfl)) rfl rfl) ?_
  refine R1 (XS.iloadN X175.here hx rfl (dq (dg dlf 11 rfl)) rfl) ?_
  refine R1 (XS.aloadN X175.here hx rfl (dq (dg dlf 12 rfl)) rfl rfl) ?_
  show Rch p e below T175 (mkF m 17 #[vR ea, vR a169, vI (1 : Int32)] [(.ref ea), (.int (1 : Int32)), (.ref a169)]) _
  refine R1 (XS.iloadN X175.here hx rfl (dq (dg dlf 13 rfl)) rfl) ?_
  show Rch p e below T175 (mkF m 18 #[vR ea, vR a169, vI (1 : Int32)] [(.int (1 : Int32)), (.ref ea), (.int (1 : Int32)), (.ref a169)]) _
  obtain ⟨kk178, M178⟩ := ((A.ext Ex176)).arh
  refine R0_ (aalA X175 hx hZ e175 M178 rfl ⟨by decide, by decide⟩ (v := (.ref y1)) rfl (g := (mkF m 18 #[vR ea, vR a169, vI (1 : Int32)] [(.int (1 : Int32)), (.ref ea), (.int (1 : Int32)), (.ref a169)])) rfl rfl (dq (dg dlf 14 rfl))) ?_
  show Rch p e below T175 (mkF m 19 #[vR ea, vR a169, vI (1 : Int32)] [(.ref y1), (.int (1 : Int32)), (.ref a169)]) _
  obtain ⟨_, _, ⟨T179, L179, k179, n179⟩, -, X179, ⟨Lc179, hQ179, l179, y179, z179⟩, st179⟩ := Jvm.LawKit.callS X175 hx (y := mN23) hown (mw hZ hw 395 rfl) (mw hZ hw 247 rfl) (mw hZ hw 126 rfl) (mw hZ hw 248 rfl) (by decide) (backOf (W := 2) (rm_rnn l Z a0 hw [] y1 h175 n0 (Nat.le_trans Z0 Ex176.1)) hZ (wq hw 248 rfl) (wq hw 126 rfl) (by decide) (by decide)) (g := (mkF m 19 #[vR ea, vR a169, vI (1 : Int32)] [(.ref y1), (.int (1 : Int32)), (.ref a169)])) rfl (by rw [hml]; rfl) (argsL := [(.ref y1)]) (rest := [(.int (1 : Int32)), (.ref a169)]) (lenOf pd_9 rfl) rfl (w0 rfl) (dq (dg dlf 15 rfl)) (fun _ _ => ⟨rfl, e175, (by decide : 1 + 0 ≤ _), (by decide : 4 + 0 ≤ _)⟩)
  dsimp only [Pt.U, Pt.locs, Pt.cells, Pt.slots] at X179 l179 y179 z179 st179 hQ179
  subst l179 y179 z179
  obtain ⟨rfl, Nq179, e179⟩ := hQ179
  have N179 := Fr.app N175 Nq179
  refine R0_ st179 ?_
  show Rch p e below T179 (mkF m 22 #[vR ea, vR a169, vI (1 : Int32)] [(.ref y1), (.int (1 : Int32)), (.ref a169)]) _
  obtain ⟨T180, h180, L180, sl180, X180, e180, W180, O180, N180, st180⟩ := stRp X179 hx hZ e179 O175 N179 (Nat.le_trans Z0 le171) (Ins.of_exa (EX1.ext Ex176) (wq hw 85 rfl)) ⟨by decide, by decide⟩ rfl (g := (mkF m 22 #[vR ea, vR a169, vI (1 : Int32)] [(.ref y1), (.int (1 : Int32)), (.ref a169)])) rfl rfl (dq (dg dlf 16 rfl))
  have Ex181 : Ext h0 h180 := extWr Ex176 W180 le171
  refine R0_ st180 ?_
  show Rch p e below T180 (mkF m 23 #[vR ea, vR a169, vI (1 : Int32)] []) _
  refine R1 (XS.iinc X180.here hx rfl (dq (dg dlf 17 rfl)) rfl (l' := #[vR ea, vR a169, vI (2 : Int32)]) rfl) ?_
  refine R1 (XS.goto X180.here hx rfl (pc0 := 26) (pc' := 8) rfl (dq (dg dlf 18 rfl)) (by decide) (by decide)) ?_
  refine R1 (XS.iloadN X180.here hx rfl (dq (dg dlf 6 rfl)) rfl) ?_
  refine R1 (XS.aloadN X180.here hx rfl (dq (dg dlf 7 rfl)) rfl rfl) ?_
  show Rch p e below T180 (mkF m 10 #[vR ea, vR a169, vI (2 : Int32)] [(.ref ea), (.int (2 : Int32))]) _
  obtain ⟨kk182, M182⟩ := ((A.ext Ex181)).arh
  refine R0_ (alenA X180 hx hZ e180 M182 (g := (mkF m 10 #[vR ea, vR a169, vI (2 : Int32)] [(.ref ea), (.int (2 : Int32))])) rfl rfl (dq (dg dlf 8 rfl))) ?_
  show Rch p e below T180 (mkF m 11 #[vR ea, vR a169, vI (2 : Int32)] [(.int (4 : Int32)), (.int (2 : Int32))]) _
  refine R1 (XS.icmpNo X180.here hx rfl (dq (dg dlf 9 rfl)) rfl (by decide : if_icmp.holds .ge (2 : Int32) (4 : Int32) = false)) ?_
  refine R1 (XS.aloadN X180.here hx rfl (dq (dg dlf 10 rfl)) rfl rfl) ?_
  refine R1 (XS.iloadN X180.here hx rfl (dq (dg dlf 11 rfl)) rfl) ?_
  refine R1 (XS.aloadN X180.here hx rfl (dq (dg dlf 12 rfl)) rfl rfl) ?_
  show Rch p e below T180 (mkF m 17 #[vR ea, vR a169, vI (2 : Int32)] [(.ref ea), (.int (2 : Int32)), (.ref a169)]) _
  refine R1 (XS.iloadN X180.here hx rfl (dq (dg dlf 13 rfl)) rfl) ?_
  show Rch p e below T180 (mkF m 18 #[vR ea, vR a169, vI (2 : Int32)] [(.int (2 : Int32)), (.ref ea), (.int (2 : Int32)), (.ref a169)]) _
  obtain ⟨kk183, M183⟩ := ((A.ext Ex181)).arh
  refine R0_ (aalA X180 hx hZ e180 M183 rfl ⟨by decide, by decide⟩ (v := (.ref y2)) rfl (g := (mkF m 18 #[vR ea, vR a169, vI (2 : Int32)] [(.int (2 : Int32)), (.ref ea), (.int (2 : Int32)), (.ref a169)])) rfl rfl (dq (dg dlf 14 rfl))) ?_
  show Rch p e below T180 (mkF m 19 #[vR ea, vR a169, vI (2 : Int32)] [(.ref y2), (.int (2 : Int32)), (.ref a169)]) _
  obtain ⟨_, _, ⟨T184, L184, k184, n184⟩, -, X184, ⟨Lc184, hQ184, l184, y184, z184⟩, st184⟩ := Jvm.LawKit.callS X180 hx (y := mN23) hown (mw hZ hw 395 rfl) (mw hZ hw 247 rfl) (mw hZ hw 126 rfl) (mw hZ hw 248 rfl) (by decide) (backOf (W := 2) (rm_rnn l Z a0 hw [] y2 h180 n0 (Nat.le_trans Z0 Ex181.1)) hZ (wq hw 248 rfl) (wq hw 126 rfl) (by decide) (by decide)) (g := (mkF m 19 #[vR ea, vR a169, vI (2 : Int32)] [(.ref y2), (.int (2 : Int32)), (.ref a169)])) rfl (by rw [hml]; rfl) (argsL := [(.ref y2)]) (rest := [(.int (2 : Int32)), (.ref a169)]) (lenOf pd_9 rfl) rfl (w0 rfl) (dq (dg dlf 15 rfl)) (fun _ _ => ⟨rfl, e180, (by decide : 1 + 0 ≤ _), (by decide : 4 + 0 ≤ _)⟩)
  dsimp only [Pt.U, Pt.locs, Pt.cells, Pt.slots] at X184 l184 y184 z184 st184 hQ184
  subst l184 y184 z184
  obtain ⟨rfl, Nq184, e184⟩ := hQ184
  have N184 := Fr.app N180 Nq184
  refine R0_ st184 ?_
  show Rch p e below T184 (mkF m 22 #[vR ea, vR a169, vI (2 : Int32)] [(.ref y2), (.int (2 : Int32)), (.ref a169)]) _
  obtain ⟨T185, h185, L185, sl185, X185, e185, W185, O185, N185, st185⟩ := stRp X184 hx hZ e184 O180 N184 (Nat.le_trans Z0 le171) (Ins.of_exa (EX2.ext Ex181) (wq hw 85 rfl)) ⟨by decide, by decide⟩ rfl (g := (mkF m 22 #[vR ea, vR a169, vI (2 : Int32)] [(.ref y2), (.int (2 : Int32)), (.ref a169)])) rfl rfl (dq (dg dlf 16 rfl))
  have Ex186 : Ext h0 h185 := extWr Ex181 W185 le171
  refine R0_ st185 ?_
  show Rch p e below T185 (mkF m 23 #[vR ea, vR a169, vI (2 : Int32)] []) _
  refine R1 (XS.iinc X185.here hx rfl (dq (dg dlf 17 rfl)) rfl (l' := #[vR ea, vR a169, vI (3 : Int32)]) rfl) ?_
  refine R1 (XS.goto X185.here hx rfl (pc0 := 26) (pc' := 8) rfl (dq (dg dlf 18 rfl)) (by decide) (by decide)) ?_
  refine R1 (XS.iloadN X185.here hx rfl (dq (dg dlf 6 rfl)) rfl) ?_
  refine R1 (XS.aloadN X185.here hx rfl (dq (dg dlf 7 rfl)) rfl rfl) ?_
  show Rch p e below T185 (mkF m 10 #[vR ea, vR a169, vI (3 : Int32)] [(.ref ea), (.int (3 : Int32))]) _
  obtain ⟨kk187, M187⟩ := ((A.ext Ex186)).arh
  refine R0_ (alenA X185 hx hZ e185 M187 (g := (mkF m 10 #[vR ea, vR a169, vI (3 : Int32)] [(.ref ea), (.int (3 : Int32))])) rfl rfl (dq (dg dlf 8 rfl))) ?_
  show Rch p e below T185 (mkF m 11 #[vR ea, vR a169, vI (3 : Int32)] [(.int (4 : Int32)), (.int (3 : Int32))]) _
  refine R1 (XS.icmpNo X185.here hx rfl (dq (dg dlf 9 rfl)) rfl (by decide : if_icmp.holds .ge (3 : Int32) (4 : Int32) = false)) ?_
  refine R1 (XS.aloadN X185.here hx rfl (dq (dg dlf 10 rfl)) rfl rfl) ?_
  refine R1 (XS.iloadN X185.here hx rfl (dq (dg dlf 11 rfl)) rfl) ?_
  refine R1 (XS.aloadN X185.here hx rfl (dq (dg dlf 12 rfl)) rfl rfl) ?_
  show Rch p e below T185 (mkF m 17 #[vR ea, vR a169, vI (3 : Int32)] [(.ref ea), (.int (3 : Int32)), (.ref a169)]) _
  refine R1 (XS.iloadN X185.here hx rfl (dq (dg dlf 13 rfl)) rfl) ?_
  show Rch p e below T185 (mkF m 18 #[vR ea, vR a169, vI (3 : Int32)] [(.int (3 : Int32)), (.ref ea), (.int (3 : Int32)), (.ref a169)]) _
  obtain ⟨kk188, M188⟩ := ((A.ext Ex186)).arh
  refine R0_ (aalA X185 hx hZ e185 M188 rfl ⟨by decide, by decide⟩ (v := (.ref y3)) rfl (g := (mkF m 18 #[vR ea, vR a169, vI (3 : Int32)] [(.int (3 : Int32)), (.ref ea), (.int (3 : Int32)), (.ref a169)])) rfl rfl (dq (dg dlf 14 rfl))) ?_
  show Rch p e below T185 (mkF m 19 #[vR ea, vR a169, vI (3 : Int32)] [(.ref y3), (.int (3 : Int32)), (.ref a169)]) _
  obtain ⟨_, _, ⟨T189, L189, k189, n189⟩, -, X189, ⟨Lc189, hQ189, l189, y189, z189⟩, st189⟩ := Jvm.LawKit.callS X185 hx (y := mN23) hown (mw hZ hw 395 rfl) (mw hZ hw 247 rfl) (mw hZ hw 126 rfl) (mw hZ hw 248 rfl) (by decide) (backOf (W := 2) (rm_rnn l Z a0 hw [] y3 h185 n0 (Nat.le_trans Z0 Ex186.1)) hZ (wq hw 248 rfl) (wq hw 126 rfl) (by decide) (by decide)) (g := (mkF m 19 #[vR ea, vR a169, vI (3 : Int32)] [(.ref y3), (.int (3 : Int32)), (.ref a169)])) rfl (by rw [hml]; rfl) (argsL := [(.ref y3)]) (rest := [(.int (3 : Int32)), (.ref a169)]) (lenOf pd_9 rfl) rfl (w0 rfl) (dq (dg dlf 15 rfl)) (fun _ _ => ⟨rfl, e185, (by decide : 1 + 0 ≤ _), (by decide : 4 + 0 ≤ _)⟩)
  dsimp only [Pt.U, Pt.locs, Pt.cells, Pt.slots] at X189 l189 y189 z189 st189 hQ189
  subst l189 y189 z189
  obtain ⟨rfl, Nq189, e189⟩ := hQ189
  have N189 := Fr.app N185 Nq189
  refine R0_ st189 ?_
  show Rch p e below T189 (mkF m 22 #[vR ea, vR a169, vI (3 : Int32)] [(.ref y3), (.int (3 : Int32)), (.ref a169)]) _
  obtain ⟨T190, h190, L190, sl190, X190, e190, W190, O190, N190, st190⟩ := stRp X189 hx hZ e189 O185 N189 (Nat.le_trans Z0 le171) (Ins.of_exa (EX3.ext Ex186) (wq hw 85 rfl)) ⟨by decide, by decide⟩ rfl (g := (mkF m 22 #[vR ea, vR a169, vI (3 : Int32)] [(.ref y3), (.int (3 : Int32)), (.ref a169)])) rfl rfl (dq (dg dlf 16 rfl))
  have Ex191 : Ext h0 h190 := extWr Ex186 W190 le171
  refine R0_ st190 ?_
  show Rch p e below T190 (mkF m 23 #[vR ea, vR a169, vI (3 : Int32)] []) _
  refine R1 (XS.iinc X190.here hx rfl (dq (dg dlf 17 rfl)) rfl (l' := #[vR ea, vR a169, vI (4 : Int32)]) rfl) ?_
  refine R1 (XS.goto X190.here hx rfl (pc0 := 26) (pc' := 8) rfl (dq (dg dlf 18 rfl)) (by decide) (by decide)) ?_
  refine R1 (XS.iloadN X190.here hx rfl (dq (dg dlf 6 rfl)) rfl) ?_
  refine R1 (XS.aloadN X190.here hx rfl (dq (dg dlf 7 rfl)) rfl rfl) ?_
  show Rch p e below T190 (mkF m 10 #[vR ea, vR a169, vI (4 : Int32)] [(.ref ea), (.int (4 : Int32))]) _
  obtain ⟨kk192, M192⟩ := ((A.ext Ex191)).arh
  refine R0_ (alenA X190 hx hZ e190 M192 (g := (mkF m 10 #[vR ea, vR a169, vI (4 : Int32)] [(.ref ea), (.int (4 : Int32))])) rfl rfl (dq (dg dlf 8 rfl))) ?_
  show Rch p e below T190 (mkF m 11 #[vR ea, vR a169, vI (4 : Int32)] [(.int (4 : Int32)), (.int (4 : Int32))]) _
  refine R1 (XS.icmpYes X190.here hx rfl (pc0 := 11) (pc' := 29) rfl (dq (dg dlf 9 rfl)) rfl (by decide : if_icmp.holds .ge (4 : Int32) (4 : Int32) = true) (by decide) (by decide)) ?_
  show Rch p e below T190 (mkF m 29 #[vR ea, vR a169, vI (4 : Int32)] []) _
  obtain ⟨T193, h193, X193, e193, E193, A193, D193, -, st193⟩ := newO X190 hx hZ hown (wq hw 212 rfl) (wq hw 396 rfl) (wq hw 397 rfl) e190 (g := (mkF m 29 #[vR ea, vR a169, vI (4 : Int32)] [])) rfl (dq (dg dlf 19 rfl)) (by decide) (by decide)
  obtain ⟨a193, g193⟩ : ∃ z, z = h190.size := ⟨_, rfl⟩
  rw [← g193] at A193 D193 st193
  have Ex194 : Ext h0 h193 := Ex191.tr E193
  have Ex195 : Ext h190 h193 := E193
  have le196 : h0.size ≤ a193 := Nat.le_trans Ex191.1 (Nat.le_of_eq g193.symm)
  refine R0_ st193 ?_
  show Rch p e below T193 (mkF m 32 #[vR ea, vR a169, vI (4 : Int32)] [(.ref a193)]) _
  refine R1 (XS.dup X193.here hx rfl (dq (dg dlf 20 rfl)) rfl rfl) ?_
  refine R1 (XS.aloadN X193.here hx rfl (dq (dg dlf 21 rfl)) rfl rfl) ?_
  refine R1 (XS.iconst X193.here hx rfl (dq (dg dlf 22 rfl)) ) ?_
  show Rch p e below T193 (mkF m 35 #[vR ea, vR a169, vI (4 : Int32)] [(.int (0 : Int32)), (.ref a169), (.ref a193), (.ref a193)]) _
  obtain ⟨_, _, ⟨T198, L198, k198, n198⟩, -, X198, ⟨Lc198, hQ198, l198, y198, z198⟩, st198⟩ := X193.specialBackNest hx (y := mN25) rfl hown (Cond.methodLinkNest_wide hZ (wq hw 398 rfl) :) (mw hZ hw 399 rfl) (mw hZ hw 401 rfl) (by decide) (backOf (W := 1) (rm_lnInit l Z a0 hw [] a193 a169 (4 : Int32) [(.ref y0), (.ref y1), (.ref y2), (.ref y3)] h193 n0 (Nat.le_trans Z0 Ex194.1) (Nat.le_trans Z0 le196) A193 (D193 (Or.inr (wq hw 407 rfl)) (ty := (.array (.object "java/lang/Object"))) (by decide)) (D193 (Or.inr (wq hw 409 rfl)) (ty := .boolean) (by decide)) (O190.ext Ex195)) hZ (wq hw 401 rfl) (wq hw 397 rfl) (by decide) (by decide)) (g := (mkF m 35 #[vR ea, vR a169, vI (4 : Int32)] [(.int (0 : Int32)), (.ref a169), (.ref a193), (.ref a193)])) rfl (by rw [hml]; rfl) (Steps.refl _) (a := a193) (argsL := [(.ref a169), (.int (0 : Int32))]) (rest := [(.ref a193)]) (lenOf pd_14 rfl) rfl (w0 rfl) (dq (dg dlf 23 rfl)) (fun _ _ => ⟨rfl, e193, (by decide : 2 + 0 ≤ _), (by decide : 6 + 0 ≤ _)⟩)
  dsimp only [Pt.U, Pt.locs, Pt.cells, Pt.slots] at X198 l198 y198 z198 st198 hQ198
  subst l198 y198 z198
  obtain ⟨rfl, Nq198, K198, E198, F198, O198⟩ := hQ198
  have N198 := Fr.app N190 Nq198
  have Ex199 : Ext h0 T198.heap := extKeep Ex194 K198 (allS le196 all0)
  refine R2 st198 ?_
  show Rch p e below T198 (mkF m 38 #[vR ea, vR a169, vI (4 : Int32)] [(.ref a193)]) _
  exact Rch.fin (Q := Q_lfa4 Z ea y0 y1 y2 y3 h0 n0) X198 (v := some (.ref a193)) (fun h => by rw [Bd.returns] at h; cases h) (BodyLoose.notSynchronized Bd) (fun fs hr => retR X198 hx Bd.returns rfl rfl (dq (dg dlf 24 rfl)) hr) ⟨a193, rfl, N198, Ex199, le196, E198, a169, F198, O198⟩ (by decide) (by decide)
def Q_lof4 (Z : State) (ea y0 y1 y2 y3 : Addr) (h0 : Heap) (n0 : Nat) (v : Option Value) (h : Heap) (L : List Loc) : Prop := ∃ t, v = some (.ref t) ∧ Fr n0 L ∧ Ext h0 h ∧ h0.size ≤ t ∧ LNp Z h t (4 : Int32) [(.ref y0), (.ref y1), (.ref y2), (.ref y3)]
set_option maxRecDepth 65536 in
set_option maxHeartbeats 40000000 in
theorem rm_lof4 (l : Launch) (Z : State) (a0 : Array Value) (hw : ∀ d ∈ tables_1, d.before a0 Z = true) (ws : List Jvm.Cond) (ea y0 y1 y2 y3 : Addr) (h0 : Heap) (n0 : Nat) (Z0 : n0 ≤ h0.size) (A : Oar Z h0 ea (4 : Int32) [(.ref y0), (.ref y1), (.ref y2), (.ref y3)]) (EX0 : Exa Z h0 y0 "java/lang/String") (EX1 : Exa Z h0 y1 "java/lang/String") (EX2 : Exa Z h0 y2 "java/lang/String") (EX3 : Exa Z h0 y3 "java/lang/String") :
    MetFree l mN26 (head1 (Jvm.Cond.code mN26 jdk_40_method_47_code 2 (some (.object "java/util/List")) :: ws) rO25) (fun a U => a = #[(.ref ea)] ∧ Z.Warmed39 U.vm ∧ U.heap = h0) (fun _ _ _ _ _ => True) (fun _ U o U' => ∃ v L, o = .returned v ∧ Q_lof4 Z ea y0 y1 y2 y3 h0 n0 v U'.heap L ∧ FrameEnd U o U' L rO25.cells rO25.slots) := by
  refine MetFree.of_bodySF pn_lof2 hisR ?_
  intro p e s m args below meth c s₁ Bd hml0 hP hK
  obtain ⟨rfl, hZ, hh⟩ := hP
  have hx := Bd.exec
  have hby := Bd.bytes
  have dq := @hb _ _ hby
  have hml : c.maxLocals = 2 := hml0
  have hown : s.vm.findClass "java/util/List" = some m.cls := findClass_of_methodNamed Bd.named
  have X0 : Stand p l e rO25 s m #[(.ref ea)] below meth c s₁ [] 0 0 := Stand.of_body Bd
  have e0 : s₁.heap = h0 := by rw [← hh, Bd.state]; rfl
  have N0 := Fr.nil n0
  show Rch p e below s₁ (entryFrame m #[(.ref ea)] 2) (fun U o => ∃ v L, o = .returned v ∧ Q_lof4 Z ea y0 y1 y2 y3 h0 n0 v U.heap L ∧ FrameEnd s o U L rO25.cells rO25.slots)
  refine Rch.cast (ef_lof2 m ea) ?_
  show Rch p e below s₁ (mkF m 0 #[vR ea, .unset] []) _
  refine R1 (XS.aloadN X0.here hx rfl (dq (dg dlo 0 rfl)) rfl rfl) ?_
  show Rch p e below s₁ (mkF m 1 #[vR ea, .unset] [(.ref ea)]) _
  obtain ⟨kk201, M201⟩ := (A).arh
  refine R0_ (alenA X0 hx hZ e0 M201 (g := (mkF m 1 #[vR ea, .unset] [(.ref ea)])) rfl rfl (dq (dg dlo 1 rfl))) ?_
  show Rch p e below s₁ (mkF m 2 #[vR ea, .unset] [(.int (4 : Int32))]) _
  refine R1 (XS.tswOut X0.here hx rfl (pc0 := 2) (pc' := 59) rfl (dq (dg dlo 2 rfl)) rfl (by decide) (by decide) (by decide)) ?_
  refine R1 (XS.aloadN X0.here hx rfl (dq (dg dlo 13 rfl)) rfl rfl) ?_
  show Rch p e below s₁ (mkF m 60 #[vR ea, .unset] [(.ref ea)]) _
  obtain ⟨_, _, ⟨T202, L202, k202, n202⟩, -, X202, ⟨Lc202, hQ202, l202, y202, z202⟩, st202⟩ := Jvm.LawKit.callS X0 hx (y := mN30) hown (mw hZ hw 391 rfl) (mw hZ hw 392 rfl) (mw hZ hw 205 rfl) (mw hZ hw 393 rfl) (by decide) (backOf (W := 0) (rm_lfa4 l Z a0 hw [] ea y0 y1 y2 y3 h0 n0 Z0 A EX0 EX1 EX2 EX3) hZ (wq hw 393 rfl) (wq hw 205 rfl) (by decide) (by decide)) (g := (mkF m 60 #[vR ea, .unset] [(.ref ea)])) rfl (by rw [hml]; rfl) (argsL := [(.ref ea)]) (rest := []) (lenOf pd_12 rfl) rfl (w0 rfl) (dq (dg dlo 14 rfl)) (fun _ _ => ⟨rfl, e0, (by decide : 0 + 2 ≤ _), (by decide : 0 + 6 ≤ _)⟩)
  dsimp only [Pt.U, Pt.locs, Pt.cells, Pt.slots] at X202 l202 y202 z202 st202 hQ202
  subst l202 y202 z202
  obtain ⟨t202, rfl, Nq202, E202, le202_, R202⟩ := hQ202
  have N202 := Fr.app N0 Nq202
  have Ex203 : Ext h0 T202.heap := E202
  refine R0_ st202 ?_
  show Rch p e below T202 (mkF m 63 #[vR ea, .unset] [(.ref t202)]) _
  exact Rch.fin (Q := Q_lof4 Z ea y0 y1 y2 y3 h0 n0) X202 (v := some (.ref t202)) (fun h => by rw [Bd.returns] at h; cases h) (BodyLoose.notSynchronized Bd) (fun fs hr => retR X202 hx Bd.returns rfl rfl (dq (dg dlo 15 rfl)) hr) ⟨t202, rfl, N202, Ex203, le202_, R202⟩ (by decide) (by decide)
def Q_lcp4 (Z : State) (ta ea mr y0 y1 y2 y3 : Addr) (h0 : Heap) (n0 : Nat) (v : Option Value) (h : Heap) (L : List Loc) : Prop := ∃ t, v = some (.ref t) ∧ Fr n0 L ∧ Ext h0 h ∧ h0.size ≤ t ∧ LNp Z h t (4 : Int32) [(.ref y0), (.ref y1), (.ref y2), (.ref y3)]
set_option maxRecDepth 65536 in
set_option maxHeartbeats 40000000 in
theorem rm_lcp4 (l : Launch) (Z : State) (a0 : Array Value) (hw : ∀ d ∈ tables_1, d.before a0 Z = true) (ws : List Jvm.Cond) (ta ea mr y0 y1 y2 y3 : Addr) (h0 : Heap) (n0 : Nat) (Z0 : n0 ≤ h0.size) (A : Al Z h0 ta ea (4 : Int32) (4 : Int32) [(.ref y0), (.ref y1), (.ref y2), (.ref y3)]) (MR : Mi Z "[Ljava/lang/Object;" mr) (EX0 : Exa Z h0 y0 "java/lang/String") (EX1 : Exa Z h0 y1 "java/lang/String") (EX2 : Exa Z h0 y2 "java/lang/String") (EX3 : Exa Z h0 y3 "java/lang/String") :
    MetFree l mN27 (head1 (Jvm.Cond.code mN27 jdk_56_method_3_code 2 (some (.object "java/util/List")) :: ws) rO26) (fun a U => a = #[(.ref ta)] ∧ Z.Warmed39 U.vm ∧ U.heap = h0) (fun _ _ _ _ _ => True) (fun _ U o U' => ∃ v L, o = .returned v ∧ Q_lcp4 Z ta ea mr y0 y1 y2 y3 h0 n0 v U'.heap L ∧ FrameEnd U o U' L rO26.cells rO26.slots) := by
  refine MetFree.of_bodySF pn_lcp2 hisR ?_
  intro p e s m args below meth c s₁ Bd hml0 hP hK
  obtain ⟨rfl, hZ, hh⟩ := hP
  have hx := Bd.exec
  have hby := Bd.bytes
  have dq := @hb _ _ hby
  have hml : c.maxLocals = 2 := hml0
  have hown : s.vm.findClass "java/util/ImmutableCollections" = some m.cls := findClass_of_methodNamed Bd.named
  have X0 : Stand p l e rO26 s m #[(.ref ta)] below meth c s₁ [] 0 0 := Stand.of_body Bd
  have e0 : s₁.heap = h0 := by rw [← hh, Bd.state]; rfl
  have N0 := Fr.nil n0
  show Rch p e below s₁ (entryFrame m #[(.ref ta)] 2) (fun U o => ∃ v L, o = .returned v ∧ Q_lcp4 Z ta ea mr y0 y1 y2 y3 h0 n0 v U.heap L ∧ FrameEnd s o U L rO26.cells rO26.slots)
  refine Rch.cast (ef_lof2 m ta) ?_
  show Rch p e below s₁ (mkF m 0 #[vR ta, .unset] []) _
  refine R1 (XS.aloadN X0.here hx rfl (dq (dg dlc 0 rfl)) rfl rfl) ?_
  show Rch p e below s₁ (mkF m 1 #[vR ta, .unset] [(.ref ta)]) _
  obtain ⟨T204, X204, e204, st204⟩ := instNo X0 hx hZ hown (wq hw 207 rfl) e0 A.1 (not_l12 hw) (g := (mkF m 1 #[vR ta, .unset] [(.ref ta)])) rfl rfl (dq (dg dlc 1 rfl))
  refine R0_ st204 ?_
  show Rch p e below T204 (mkF m 4 #[vR ta, .unset] [(.int (0 : Int32))]) _
  refine R1 (XS.ifNo X204.here hx rfl (dq (dg dlc 2 rfl)) rfl (by decide : ifCond.holds .ne (0 : Int32) = false)) ?_
  refine R1 (XS.aloadN X204.here hx rfl (dq (dg dlc 3 rfl)) rfl rfl) ?_
  show Rch p e below T204 (mkF m 8 #[vR ta, .unset] [(.ref ta)]) _
  obtain ⟨T205, X205, e205, st205⟩ := instNo X204 hx hZ hown (wq hw 212 rfl) e204 A.1 (not_ln hw) (g := (mkF m 8 #[vR ta, .unset] [(.ref ta)])) rfl rfl (dq (dg dlc 4 rfl))
  refine R0_ st205 ?_
  show Rch p e below T205 (mkF m 11 #[vR ta, .unset] [(.int (0 : Int32))]) _
  refine R1 (XS.ifYes X205.here hx rfl (pc0 := 11) (pc' := 31) rfl (dq (dg dlc 5 rfl)) rfl (by decide : ifCond.holds .eq (0 : Int32) = true) (by decide) (by decide)) ?_
  refine R1 (XS.aloadN X205.here hx rfl (dq (dg dlc 6 rfl)) rfl rfl) ?_
  show Rch p e below T205 (mkF m 32 #[vR ta, .unset] [(.ref ta)]) _
  obtain ⟨cq206, kq206, q206a, q206b, q206c⟩ := isOf hZ e205 A.1
  obtain ⟨_, _, ⟨T206, L206, k206, n206⟩, -, X206, ⟨Lc206, hQ206, l206, y206, z206⟩, st206⟩ := X205.interfaceBack hx (xi := mN28) (y := mN9) hown (mw hZ hw 213 rfl) (mw hZ hw 214 rfl) (mw hZ hw 215 rfl) (mw hZ hw 216 rfl) (mw hZ hw 217 rfl) (mw hZ hw 218 rfl) (mw hZ hw 219 rfl) (mw hZ hw 167 rfl) (by decide) (backOf (W := 0) (rm_alEmp l Z a0 hw [] ta ea (4 : Int32) (4 : Int32) [(.ref y0), (.ref y1), (.ref y2), (.ref y3)] h0 n0 Z0 A (by decide)) hZ (wq hw 220 rfl) (wq hw 33 rfl) (by decide) (by decide)) q206a q206b q206c (g := (mkF m 32 #[vR ta, .unset] [(.ref ta)])) rfl (by rw [hml]; rfl) (Steps.refl _) (argsL := []) (rest := []) (lenOf pd_11 rfl) rfl (w0 rfl) (dq (dg dlc 7 rfl)) (fun _ _ => ⟨rfl, e205, (by decide : 0 + 0 ≤ _), (by decide : 0 + 0 ≤ _)⟩)
  dsimp only [Pt.U, Pt.locs, Pt.cells, Pt.slots] at X206 l206 y206 z206 st206 hQ206
  subst l206 y206 z206
  obtain ⟨rfl, Nq206, e206⟩ := hQ206
  have N206 := Fr.app N0 Nq206
  refine R2 st206 ?_
  show Rch p e below T206 (mkF m 37 #[vR ta, .unset] [(.int (0 : Int32))]) _
  refine R1 (XS.ifYes X206.here hx rfl (pc0 := 37) (pc' := 44) rfl (dq (dg dlc 8 rfl)) rfl (by decide : ifCond.holds .eq (0 : Int32) = true) (by decide) (by decide)) ?_
  refine R1 (XS.aloadN X206.here hx rfl (dq (dg dlc 9 rfl)) rfl rfl) ?_
  show Rch p e below T206 (mkF m 45 #[vR ta, .unset] [(.ref ta)]) _
  obtain ⟨cq207, kq207, q207a, q207b, q207c⟩ := isOf hZ e206 A.1
  obtain ⟨_, _, ⟨T207, L207, k207, n207⟩, -, X207, ⟨Lc207, hQ207, l207, y207, z207⟩, st207⟩ := X206.interfaceBack hx (xi := mN20) (y := mN17) hown (mw hZ hw 221 rfl) (mw hZ hw 161 rfl) (mw hZ hw 162 rfl) (mw hZ hw 163 rfl) (mw hZ hw 164 rfl) (mw hZ hw 165 rfl) (mw hZ hw 166 rfl) (mw hZ hw 167 rfl) (by decide) (backOf (W := 0) (rm_toArr l Z a0 hw [] ta ea mr (4 : Int32) (4 : Int32) [(.ref y0), (.ref y1), (.ref y2), (.ref y3)] [(.ref y0), (.ref y1), (.ref y2), (.ref y3)] h0 n0 Z0 A MR (by decide) (by decide) (by decide) rfl (fun v hv => by simp only [List.mem_cons, List.not_mem_nil, or_false] at hv; rcases hv with rfl | rfl | rfl | rfl <;> first | exact ⟨_, rfl, EX0⟩ | exact ⟨_, rfl, EX1⟩ | exact ⟨_, rfl, EX2⟩ | exact ⟨_, rfl, EX3⟩)) hZ (wq hw 168 rfl) (wq hw 33 rfl) (by decide) (by decide)) q207a q207b q207c (g := (mkF m 45 #[vR ta, .unset] [(.ref ta)])) rfl (by rw [hml]; rfl) (Steps.refl _) (argsL := []) (rest := []) (lenOf pd_3 rfl) rfl (w0 rfl) (dq (dg dlc 10 rfl)) (fun _ _ => ⟨rfl, e206, (by decide : 0 + 1 ≤ _), (by decide : 0 + 4 ≤ _)⟩)
  dsimp only [Pt.U, Pt.locs, Pt.cells, Pt.slots] at X207 l207 y207 z207 st207 hQ207
  subst l207 y207 z207
  obtain ⟨b207, rfl, Nq207, E207, le207_, O207⟩ := hQ207
  have N207 := Fr.app N206 Nq207
  have Ex208 : Ext h0 T207.heap := E207
  refine R2 st207 ?_
  show Rch p e below T207 (mkF m 50 #[vR ta, .unset] [(.ref b207)]) _
  obtain ⟨_, _, ⟨T209, L209, k209, n209⟩, -, X209, ⟨Lc209, hQ209, l209, y209, z209⟩, st209⟩ := Jvm.LawKit.callS X207 hx (y := mN26) hown (mw hZ hw 222 rfl) (mw hZ hw 223 rfl) (mw hZ hw 201 rfl) (mw hZ hw 224 rfl) (by decide) (backOf (W := 0) (rm_lof4 l Z a0 hw [] b207 y0 y1 y2 y3 T207.heap n0 (Nat.le_trans Z0 Ex208.1) O207 (EX0.ext Ex208) (EX1.ext Ex208) (EX2.ext Ex208) (EX3.ext Ex208)) hZ (wq hw 224 rfl) (wq hw 201 rfl) (by decide) (by decide)) (g := (mkF m 50 #[vR ta, .unset] [(.ref b207)])) rfl (by rw [hml]; rfl) (argsL := [(.ref b207)]) (rest := []) (lenOf pd_12 rfl) rfl (w0 rfl) (dq (dg dlc 11 rfl)) (fun _ _ => ⟨rfl, rfl, (by decide : 1 + 2 ≤ _), (by decide : 4 + 6 ≤ _)⟩)
  dsimp only [Pt.U, Pt.locs, Pt.cells, Pt.slots] at X209 l209 y209 z209 st209 hQ209
  subst l209 y209 z209
  obtain ⟨t209, rfl, Nq209, E209, le209_, R209⟩ := hQ209
  have N209 := Fr.app N207 Nq209
  have Ex210 : Ext h0 T209.heap := Ex208.tr E209
  refine R0_ st209 ?_
  show Rch p e below T209 (mkF m 53 #[vR ta, .unset] [(.ref t209)]) _
  exact Rch.fin (Q := Q_lcp4 Z ta ea mr y0 y1 y2 y3 h0 n0) X209 (v := some (.ref t209)) (fun h => by rw [Bd.returns] at h; cases h) (BodyLoose.notSynchronized Bd) (fun fs hr => retR X209 hx Bd.returns rfl rfl (dq (dg dlc 12 rfl)) hr) ⟨t209, rfl, N209, Ex210, Nat.le_trans E207.1 le209_, R209⟩ (by decide) (by decide)
def Q_cpo4 (Z : State) (ta ea mr y0 y1 y2 y3 : Addr) (h0 : Heap) (n0 : Nat) (v : Option Value) (h : Heap) (L : List Loc) : Prop := ∃ t, v = some (.ref t) ∧ Fr n0 L ∧ Ext h0 h ∧ h0.size ≤ t ∧ LNp Z h t (4 : Int32) [(.ref y0), (.ref y1), (.ref y2), (.ref y3)]
set_option maxRecDepth 65536 in
set_option maxHeartbeats 40000000 in
theorem rm_cpo4 (l : Launch) (Z : State) (a0 : Array Value) (hw : ∀ d ∈ tables_1, d.before a0 Z = true) (ws : List Jvm.Cond) (ta ea mr y0 y1 y2 y3 : Addr) (h0 : Heap) (n0 : Nat) (Z0 : n0 ≤ h0.size) (A : Al Z h0 ta ea (4 : Int32) (4 : Int32) [(.ref y0), (.ref y1), (.ref y2), (.ref y3)]) (MR : Mi Z "[Ljava/lang/Object;" mr) (EX0 : Exa Z h0 y0 "java/lang/String") (EX1 : Exa Z h0 y1 "java/lang/String") (EX2 : Exa Z h0 y2 "java/lang/String") (EX3 : Exa Z h0 y3 "java/lang/String") :
    MetFree l mN29 (head1 (Jvm.Cond.code mN29 jdk_40_method_48_code 1 (some (.object "java/util/List")) :: ws) rO27) (fun a U => a = #[(.ref ta)] ∧ Z.Warmed39 U.vm ∧ U.heap = h0) (fun _ _ _ _ _ => True) (fun _ U o U' => ∃ v L, o = .returned v ∧ Q_cpo4 Z ta ea mr y0 y1 y2 y3 h0 n0 v U'.heap L ∧ FrameEnd U o U' L rO27.cells rO27.slots) := by
  refine MetFree.of_bodySF pn_cpo2 hisR ?_
  intro p e s m args below meth c s₁ Bd hml0 hP hK
  obtain ⟨rfl, hZ, hh⟩ := hP
  have hx := Bd.exec
  have hby := Bd.bytes
  have dq := @hb _ _ hby
  have hml : c.maxLocals = 1 := hml0
  have hown : s.vm.findClass "java/util/List" = some m.cls := findClass_of_methodNamed Bd.named
  have X0 : Stand p l e rO27 s m #[(.ref ta)] below meth c s₁ [] 0 0 := Stand.of_body Bd
  have e0 : s₁.heap = h0 := by rw [← hh, Bd.state]; rfl
  have N0 := Fr.nil n0
  show Rch p e below s₁ (entryFrame m #[(.ref ta)] 1) (fun U o => ∃ v L, o = .returned v ∧ Q_cpo4 Z ta ea mr y0 y1 y2 y3 h0 n0 v U.heap L ∧ FrameEnd s o U L rO27.cells rO27.slots)
  refine Rch.cast (ef_acInit m ta) ?_
  show Rch p e below s₁ (mkF m 0 #[vR ta] []) _
  refine R1 (XS.aloadN X0.here hx rfl (dq (dg dlp 0 rfl)) rfl rfl) ?_
  show Rch p e below s₁ (mkF m 1 #[vR ta] [(.ref ta)]) _
  obtain ⟨_, _, ⟨T212, L212, k212, n212⟩, -, X212, ⟨Lc212, hQ212, l212, y212, z212⟩, st212⟩ := Jvm.LawKit.callS X0 hx (y := mN27) hown (mw hZ hw 203 rfl) (mw hZ hw 204 rfl) (mw hZ hw 205 rfl) (mw hZ hw 206 rfl) (by decide) (backOf (W := 0) (rm_lcp4 l Z a0 hw [] ta ea mr y0 y1 y2 y3 h0 n0 Z0 A MR EX0 EX1 EX2 EX3) hZ (wq hw 206 rfl) (wq hw 205 rfl) (by decide) (by decide)) (g := (mkF m 1 #[vR ta] [(.ref ta)])) rfl (by rw [hml]; rfl) (argsL := [(.ref ta)]) (rest := []) (lenOf pd_13 rfl) rfl (w0 rfl) (dq (dg dlp 1 rfl)) (fun _ _ => ⟨rfl, e0, (by decide : 0 + 3 ≤ _), (by decide : 0 + 10 ≤ _)⟩)
  dsimp only [Pt.U, Pt.locs, Pt.cells, Pt.slots] at X212 l212 y212 z212 st212 hQ212
  subst l212 y212 z212
  obtain ⟨t212, rfl, Nq212, E212, le212_, R212⟩ := hQ212
  have N212 := Fr.app N0 Nq212
  have Ex213 : Ext h0 T212.heap := E212
  refine R0_ st212 ?_
  show Rch p e below T212 (mkF m 4 #[vR ta] [(.ref t212)]) _
  exact Rch.fin (Q := Q_cpo4 Z ta ea mr y0 y1 y2 y3 h0 n0) X212 (v := some (.ref t212)) (fun h => by rw [Bd.returns] at h; cases h) (BodyLoose.notSynchronized Bd) (fun fs hr => retR X212 hx Bd.returns rfl rfl (dq (dg dlp 2 rfl)) hr) ⟨t212, rfl, N212, Ex213, le212_, R212⟩ (by decide) (by decide)
theorem dce : dxs jdk_43_method_3_code [(0, .iload_n 0, 1), (1, .sipush 255, 3), (4, .if_icmp .gt 7, 3), (7, .iconst 1, 1), (8, .goto 4, 3), (12, .ireturn, 1)] = true := by decide +kernel
theorem pn_canEnc : plainFor (⟨"java/lang/StringLatin1", "canEncode", "(C)Z"⟩ : MethodName) = true := plainFor_of_name (by first | (simp [plainName, overriddenIn]; done) | decide +kernel)
theorem ef_canEnc (m : MethodId) (x0 : Int32) : entryFrame m #[(.int x0)] 1 = mkF m 0 #[vI x0] [] := by first | (simp [entryFrame, mkF, argsToLocals, Value.category]; done) | rfl
def Q_canEnc (Z : State) (ch : Int32) (h0 : Heap) (n0 : Nat) (v : Option Value) (h : Heap) (L : List Loc) : Prop := v = some (.int 1) ∧ Fr n0 L ∧ h = h0
set_option maxRecDepth 65536 in
set_option maxHeartbeats 40000000 in
theorem rm_canEnc (l : Launch) (Z : State) (a0 : Array Value) (hw : ∀ d ∈ tables_1, d.before a0 Z = true) (ws : List Jvm.Cond) (ch : Int32) (h0 : Heap) (n0 : Nat) (Z0 : n0 ≤ h0.size) (hc : ¬ (255 : Int32) < ch) :
    MetFree l mN31 (head1 (Jvm.Cond.code mN31 jdk_43_method_3_code 1 (some .boolean) :: ws) rO3) (fun a U => a = #[(.int ch)] ∧ Z.Warmed39 U.vm ∧ U.heap = h0) (fun _ _ _ _ _ => True) (fun _ U o U' => ∃ v L, o = .returned v ∧ Q_canEnc Z ch h0 n0 v U'.heap L ∧ FrameEnd U o U' L rO3.cells rO3.slots) := by
  refine MetFree.of_bodySF pn_canEnc hisR ?_
  intro p e s m args below meth c s₁ Bd hml0 hP hK
  obtain ⟨rfl, hZ, hh⟩ := hP
  have hx := Bd.exec
  have hby := Bd.bytes
  have dq := @hb _ _ hby
  have hml : c.maxLocals = 1 := hml0
  have X0 : Stand p l e rO3 s m #[(.int ch)] below meth c s₁ [] 0 0 := Stand.of_body Bd
  have e0 : s₁.heap = h0 := by rw [← hh, Bd.state]; rfl
  have N0 := Fr.nil n0
  show Rch p e below s₁ (entryFrame m #[(.int ch)] 1) (fun U o => ∃ v L, o = .returned v ∧ Q_canEnc Z ch h0 n0 v U.heap L ∧ FrameEnd s o U L rO3.cells rO3.slots)
  refine Rch.cast (ef_canEnc m ch) ?_
  show Rch p e below s₁ (mkF m 0 #[vI ch] []) _
  refine R1 (XS.iloadN X0.here hx rfl (dq (dg dce 0 rfl)) rfl) ?_
  refine R1 (XS.sipush X0.here hx rfl (dq (dg dce 1 rfl)) ) ?_
  refine R1 (XS.icmpNo X0.here hx rfl (dq (dg dce 2 rfl)) rfl (flt hc).2.2.1) ?_
  refine R1 (XS.iconst X0.here hx rfl (dq (dg dce 3 rfl)) ) ?_
  show Rch p e below s₁ (mkF m 8 #[vI ch] [(.int (1 : Int32))]) _
  refine R1 (XS.goto X0.here hx rfl (pc0 := 8) (pc' := 12) rfl (dq (dg dce 4 rfl)) (by decide) (by decide)) ?_
  show Rch p e below s₁ (mkF m 12 #[vI ch] [(.int (1 : Int32))]) _
  exact Rch.fin (Q := Q_canEnc Z ch h0 n0) X0 (v := some (.int (1 : Int32))) (fun h => by rw [Bd.returns] at h; cases h) (BodyLoose.notSynchronized Bd) (fun fs hr => retN X0 hx (t := .boolean) Bd.returns (by simp) (dq (dg dce 5 rfl)) hr) (by rw [e0]; exact ⟨rfl, N0, rfl⟩) (by decide) (by decide)
theorem dtb : dxs jdk_43_method_46_code [(0, .iconst 1, 1), (1, .newarray .byte, 2), (3, .dup, 1), (4, .iconst 0, 1), (5, .iload_n 0, 1), (6, .i2b, 1), (7, .bastore, 1), (8, .areturn, 1)] = true := by decide +kernel
theorem pn_toB : plainFor (⟨"java/lang/StringLatin1", "toBytes", "(C)[B"⟩ : MethodName) = true := plainFor_of_name (by first | (simp [plainName, overriddenIn]; done) | decide +kernel)
def Q_toB (Z : State) (ch : Int32) (h0 : Heap) (n0 : Nat) (v : Option Value) (h : Heap) (L : List Loc) : Prop := ∃ b k, v = some (.ref b) ∧ Fr n0 L ∧ Ext h0 h ∧ h0.size ≤ b ∧ Arv Z h b k .byte (1 : Int32) [(.int ch.toInt8.toInt32)] (.int 0)
set_option maxRecDepth 65536 in
set_option maxHeartbeats 40000000 in
theorem rm_toB (l : Launch) (Z : State) (a0 : Array Value) (hw : ∀ d ∈ tables_1, d.before a0 Z = true) (ws : List Jvm.Cond) (ch : Int32) (h0 : Heap) (n0 : Nat) (Z0 : n0 ≤ h0.size) :
    MetFree l mN32 (head1 (Jvm.Cond.code mN32 jdk_43_method_46_code 1 (some (.array .byte)) :: ws) rO28) (fun a U => a = #[(.int ch)] ∧ Z.Warmed39 U.vm ∧ U.heap = h0) (fun _ _ _ _ _ => True) (fun _ U o U' => ∃ v L, o = .returned v ∧ Q_toB Z ch h0 n0 v U'.heap L ∧ FrameEnd U o U' L rO28.cells rO28.slots) := by
  refine MetFree.of_bodySF pn_toB hisR ?_
  intro p e s m args below meth c s₁ Bd hml0 hP hK
  obtain ⟨rfl, hZ, hh⟩ := hP
  have hx := Bd.exec
  have hby := Bd.bytes
  have dq := @hb _ _ hby
  have hml : c.maxLocals = 1 := hml0
  have X0 : Stand p l e rO28 s m #[(.int ch)] below meth c s₁ [] 0 0 := Stand.of_body Bd
  have e0 : s₁.heap = h0 := by rw [← hh, Bd.state]; rfl
  have N0 := Fr.nil n0
  show Rch p e below s₁ (entryFrame m #[(.int ch)] 1) (fun U o => ∃ v L, o = .returned v ∧ Q_toB Z ch h0 n0 v U.heap L ∧ FrameEnd s o U L rO28.cells rO28.slots)
  refine Rch.cast (ef_canEnc m ch) ?_
  show Rch p e below s₁ (mkF m 0 #[vI ch] []) _
  refine R1 (XS.iconst X0.here hx rfl (dq (dg dtb 0 rfl)) ) ?_
  show Rch p e below s₁ (mkF m 1 #[vI ch] [(.int (1 : Int32))]) _
  obtain ⟨T214, h214, k214, X214, e214, E214, A214, st214⟩ := newP X0 hx hZ (wq hw 18 rfl) e0 (g := (mkF m 1 #[vI ch] [(.int (1 : Int32))])) rfl (dq (dg dtb 1 rfl)) rfl (by decide : ¬ ((1 : Int32) < (0 : Int32))) (cap := 1) (by decide : (1 : Int32).toNatClampNeg ≤ 1) (by decide) (by decide) (by decide)
  obtain ⟨a214, g214⟩ : ∃ z, z = h0.size := ⟨_, rfl⟩
  rw [← g214] at A214 st214
  have Ex215 : Ext h0 h214 := E214
  have le216 : h0.size ≤ a214 := Nat.le_of_eq g214.symm
  refine R0_ st214 ?_
  show Rch p e below T214 (mkF m 3 #[vI ch] [(.ref a214)]) _
  have V214 : Arv Z h214 a214 k214 .byte (1 : Int32) [(.int (0 : Int32))] (.int (0 : Int32)) := (Arv.new A214 (by decide : ¬ ((1 : Int32) < (0 : Int32)))).pad (pad_rep [] (.int (0 : Int32)) 1)
  refine R1 (XS.dup X214.here hx rfl (dq (dg dtb 2 rfl)) rfl rfl) ?_
  refine R1 (XS.iconst X214.here hx rfl (dq (dg dtb 3 rfl)) ) ?_
  refine R1 (XS.iloadN X214.here hx rfl (dq (dg dtb 4 rfl)) rfl) ?_
  refine R1 (XT.i2b X214.here hx rfl (dq (dg dtb 5 rfl)) rfl) ?_
  show Rch p e below T214 (mkF m 7 #[vI ch] [(.int (ch.toInt8.toInt32)), (.int (0 : Int32)), (.ref a214), (.ref a214)]) _
  obtain ⟨T217, h217, L217, sl217, X217, e217, W217, V217, N217, st217⟩ := stBv X214 hx hZ e214 V214 N0 (Nat.le_trans Z0 le216) (j := (0 : Int32)) ⟨by decide, by decide⟩ 0 rfl (by decide) (g := (mkF m 7 #[vI ch] [(.int (ch.toInt8.toInt32)), (.int (0 : Int32)), (.ref a214), (.ref a214)])) rfl rfl (dq (dg dtb 6 rfl))
  have Ex218 : Ext h0 h217 := extWr Ex215 W217 le216
  refine R0_ st217 ?_
  show Rch p e below T217 (mkF m 8 #[vI ch] [(.ref a214)]) _
  have V217' : Arv Z h217 a214 k214 .byte (1 : Int32) [(.int ch.toInt8.toInt32)] (.int 0) := by
    have q : nar .byte ch.toInt8.toInt32 = ch.toInt8.toInt32 := by show (ch.toInt8.toInt32).toInt8.toInt32 = _; simp
    rw [q] at V217
    exact V217
  exact Rch.fin (Q := Q_toB Z ch h0 n0) X217 (v := some (.ref a214)) (fun h => by rw [Bd.returns] at h; cases h) (BodyLoose.notSynchronized Bd) (fun fs hr => retR X217 hx Bd.returns rfl rfl (dq (dg dtb 7 rfl)) hr) (by rw [e217]; exact ⟨a214, k214, rfl, N217, Ex218, le216, V217'⟩) (by decide) (by decide)
theorem dsi : dxs jdk_42_method_151_code [(0, .aload_n 0, 1), (1, .invokespecial 1, 3), (4, .aload_n 0, 1), (5, .aload_n 1, 1), (6, .putfield 9, 3), (9, .aload_n 0, 1), (10, .iload_n 2, 1), (11, .putfield 15, 3), (14, .return_, 1)] = true := by decide +kernel
theorem pn_sinit : plainFor (⟨"java/lang/String", "<init>", "([BB)V"⟩ : MethodName) = true := plainFor_of_name (by first | (simp [plainName, overriddenIn]; done) | decide +kernel)
def Q_sinit (Z : State) (ta tb : Addr) (kb : ClassId) (ch : Int32) (h0 : Heap) (n0 : Nat) (v : Option Value) (h : Heap) (L : List Loc) : Prop := v = none ∧ Fr n0 L ∧ Keep h0 h [ta] ∧ StrA Z h ta [ch]
set_option maxRecDepth 65536 in
set_option maxHeartbeats 40000000 in
theorem rm_sinit (l : Launch) (Z : State) (a0 : Array Value) (hw : ∀ d ∈ tables_1, d.before a0 Z = true) (ws : List Jvm.Cond) (ta tb : Addr) (kb : ClassId) (ch : Int32) (h0 : Heap) (n0 : Nat) (Z0 : n0 ≤ h0.size) (hthis : n0 ≤ ta) (E1 : Exa Z h0 ta "java/lang/String") (F1 : Fld Z h0 ta "java/lang/String" "value" "[B" .null) (F2 : Fld Z h0 ta "java/lang/String" "coder" "B" (.int (0 : Int32))) (A1 : Arv Z h0 tb kb .byte (1 : Int32) [(.int ch.toInt8.toInt32)] (.int 0)) (hc : ¬ ch < 0 ∧ ¬ (255 : Int32) < ch) :
    MetFree l mN33 (head1 (Jvm.Cond.code mN33 jdk_42_method_151_code 3 none :: ws) rO0) (fun a U => a = #[(.ref ta), (.ref tb), (.int (0 : Int32))] ∧ Z.Warmed39 U.vm ∧ U.heap = h0) (fun _ _ _ _ _ => True) (fun _ U o U' => ∃ v L, o = .returned v ∧ Q_sinit Z ta tb kb ch h0 n0 v U'.heap L ∧ FrameEnd U o U' L rO0.cells rO0.slots) := by
  refine MetFree.of_bodySF pn_sinit hisR ?_
  intro p e s m args below meth c s₁ Bd hml0 hP hK
  obtain ⟨rfl, hZ, hh⟩ := hP
  have hx := Bd.exec
  have hby := Bd.bytes
  have dq := @hb _ _ hby
  have hml : c.maxLocals = 3 := hml0
  have hown : s.vm.findClass "java/lang/String" = some m.cls := findClass_of_methodNamed Bd.named
  have hnm := (name_of_methodNamed Bd.named Bd.method).1
  have X0 : Stand p l e rO0 s m #[(.ref ta), (.ref tb), (.int (0 : Int32))] below meth c s₁ [] 0 0 := Stand.of_body Bd
  have e0 : s₁.heap = h0 := by rw [← hh, Bd.state]; rfl
  have N0 := Fr.nil n0
  show Rch p e below s₁ (entryFrame m #[(.ref ta), (.ref tb), (.int (0 : Int32))] 3) (fun U o => ∃ v L, o = .returned v ∧ Q_sinit Z ta tb kb ch h0 n0 v U.heap L ∧ FrameEnd s o U L rO0.cells rO0.slots)
  refine Rch.cast (ef_lnInit m ta tb (0 : Int32)) ?_
  show Rch p e below s₁ (mkF m 0 #[vR ta, vR tb, vI (0 : Int32)] []) _
  have hsl : Jvm.RoadKit.slotOf Z "java/lang/String" "value" "[B" ≠ Jvm.RoadKit.slotOf Z "java/lang/String" "coder" "B" := slot_ne (C := "java/lang/String") (Or.inr (wq hw 27 rfl)) (Or.inr (wq hw 29 rfl)) (by decide) (t := .array .byte) (t' := .byte) (by decide) (by decide)
  refine R1 (XS.aloadN X0.here hx rfl (dq (dg dsi 0 rfl)) rfl rfl) ?_
  show Rch p e below s₁ (mkF m 1 #[vR ta, vR tb, vI (0 : Int32)] [(.ref ta)]) _
  obtain ⟨T219, X219, e219, st219⟩ := initO X0 hx hZ hown (wq hw 23 rfl) (wq hw 24 rfl) (wq hw 25 rfl) e0 (g := (mkF m 1 #[vR ta, vR tb, vI (0 : Int32)] [(.ref ta)])) rfl (by rw [hml]; rfl) rfl (dq (dg dsi 1 rfl)) (by decide) (W := 0) (w0 rfl) (by decide)
  refine R0_ st219 ?_
  show Rch p e below T219 (mkF m 4 #[vR ta, vR tb, vI (0 : Int32)] []) _
  refine R1 (XS.aloadN X219.here hx rfl (dq (dg dsi 2 rfl)) rfl rfl) ?_
  refine R1 (XS.aloadN X219.here hx rfl (dq (dg dsi 3 rfl)) rfl rfl) ?_
  show Rch p e below T219 (mkF m 6 #[vR ta, vR tb, vI (0 : Int32)] [(.ref tb), (.ref ta)]) _
  obtain ⟨T220, h220, X220, e220, W220, st220⟩ := putF X219 hx hZ hown (host := "") (Or.inl (wq hw 26 rfl)) Via.refl e219 F1 E1 (Or.inr ⟨(wq hw 27 rfl), rfl, hnm⟩) (wq hw 14 rfl) (ty := (.array .byte)) (by decide) rfl rfl (g := (mkF m 6 #[vR ta, vR tb, vI (0 : Int32)] [(.ref tb), (.ref ta)])) rfl rfl (dq (dg dsi 4 rfl))
  have N220 := Fr.snoc X220 N0 hthis
  refine R0_ st220 ?_
  show Rch p e below T220 (mkF m 9 #[vR ta, vR tb, vI (0 : Int32)] []) _
  have F3 := F2.other W220 (Or.inr (Ne.symm hsl))
  have E3 := E1.wr W220
  have F4 := F1.same W220
  have ne : ta ≠ tb := E1.neArv A1 (wq hw 14 rfl)
  have A3 := A1.other W220 (Ne.symm ne)
  refine R1 (XS.aloadN X220.here hx rfl (dq (dg dsi 5 rfl)) rfl rfl) ?_
  refine R1 (XS.iloadN X220.here hx rfl (dq (dg dsi 6 rfl)) rfl) ?_
  show Rch p e below T220 (mkF m 11 #[vR ta, vR tb, vI (0 : Int32)] [(.int (0 : Int32)), (.ref ta)]) _
  obtain ⟨T221, h221, X221, e221, W221, st221⟩ := putF X220 hx hZ hown (host := "") (Or.inl (wq hw 28 rfl)) Via.refl e220 F3 E3 (Or.inr ⟨(wq hw 29 rfl), rfl, hnm⟩) (wq hw 14 rfl) (ty := .byte) (by decide) rfl rfl (g := (mkF m 11 #[vR ta, vR tb, vI (0 : Int32)] [(.int (0 : Int32)), (.ref ta)])) rfl rfl (dq (dg dsi 7 rfl))
  have N221 := Fr.snoc X221 N220 hthis
  refine R0_ st221 ?_
  show Rch p e below T221 (mkF m 14 #[vR ta, vR tb, vI (0 : Int32)] []) _
  have K5 : Keep h0 h221 [ta] := ((Keep.refl _ _).wr W220 (Or.inl (List.mem_singleton.mpr rfl))).wr W221 (Or.inl (List.mem_singleton.mpr rfl))
  have S5 : StrA Z h221 ta [ch] := strOf (n := 1) rfl rfl (c8_cons hc c8_nil) (E3.wr W221) (F4.other W221 (Or.inr hsl)) (F3.same W221) (A3.other W221 (Ne.symm ne))
  exact Rch.fin (Q := Q_sinit Z ta tb kb ch h0 n0) X221 (v := none) (fun _ => rfl) (BodyLoose.notSynchronized Bd) (fun fs hr => X221.returnOut hx Bd.returns (dq (dg dsi 8 rfl)) hr) (by rw [e221]; exact ⟨rfl, N221, K5, S5⟩) (by decide) (by decide)
theorem dvo : dxs jdk_42_method_139_code [(0, .getstatic 38, 3), (3, .ifCond .eq 23, 3), (6, .iload_n 0, 1), (7, .invokestatic 1015, 3), (10, .ifCond .eq 16, 3), (13, .new 10, 3), (16, .dup, 1), (17, .iload_n 0, 1), (18, .invokestatic 1018, 3), (21, .iconst 0, 1), (22, .invokespecial 209, 3), (25, .areturn, 1)] = true := by decide +kernel
theorem pn_valueOf : plainFor (⟨"java/lang/String", "valueOf", "(C)Ljava/lang/String;"⟩ : MethodName) = true := plainFor_of_name (by first | (simp [plainName, overriddenIn]; done) | decide +kernel)
def Q_valueOf (Z : State) (ch : Int32) (h0 : Heap) (n0 : Nat) (v : Option Value) (h : Heap) (L : List Loc) : Prop := ∃ a, v = some (.ref a) ∧ Fr n0 L ∧ Ext h0 h ∧ StrA Z h a [ch]
set_option maxRecDepth 65536 in
set_option maxHeartbeats 40000000 in
theorem rm_valueOf (l : Launch) (Z : State) (a0 : Array Value) (hw : ∀ d ∈ tables_1, d.before a0 Z = true) (ws : List Jvm.Cond) (ch : Int32) (h0 : Heap) (n0 : Nat) (Z0 : n0 ≤ h0.size) (hc : ¬ ch < 0 ∧ ¬ (255 : Int32) < ch) (CS : Cmp Z h0) :
    MetFree l mN34 (head1 (Jvm.Cond.code mN34 jdk_42_method_139_code 1 (some (.object "java/lang/String")) :: ws) rO29) (fun a U => a = #[(.int ch)] ∧ Z.Warmed39 U.vm ∧ U.heap = h0) (fun _ _ _ _ _ => True) (fun _ U o U' => ∃ v L, o = .returned v ∧ Q_valueOf Z ch h0 n0 v U'.heap L ∧ FrameEnd U o U' L rO29.cells rO29.slots) := by
  refine MetFree.of_bodySF pn_valueOf hisR ?_
  intro p e s m args below meth c s₁ Bd hml0 hP hK
  obtain ⟨rfl, hZ, hh⟩ := hP
  have hx := Bd.exec
  have hby := Bd.bytes
  have dq := @hb _ _ hby
  have hml : c.maxLocals = 1 := hml0
  have hown : s.vm.findClass "java/lang/String" = some m.cls := findClass_of_methodNamed Bd.named
  have X0 : Stand p l e rO29 s m #[(.int ch)] below meth c s₁ [] 0 0 := Stand.of_body Bd
  have e0 : s₁.heap = h0 := by rw [← hh, Bd.state]; rfl
  have N0 := Fr.nil n0
  show Rch p e below s₁ (entryFrame m #[(.int ch)] 1) (fun U o => ∃ v L, o = .returned v ∧ Q_valueOf Z ch h0 n0 v U.heap L ∧ FrameEnd s o U L rO29.cells rO29.slots)
  refine Rch.cast (ef_canEnc m ch) ?_
  show Rch p e below s₁ (mkF m 0 #[vI ch] []) _
  obtain ⟨zc, Sz, hzc⟩ := id CS
  obtain ⟨T222, X222, e222, st222⟩ := getS2 X0 hx hZ hown (host := "") (Or.inl (wq hw 8 rfl)) Via.refl e0 Sz (g := (mkF m 0 #[vI ch] [])) rfl (dq (dg dvo 0 rfl))
  refine R0_ st222 ?_
  show Rch p e below T222 (mkF m 3 #[vI ch] [(.int zc)]) _
  refine R1 (XS.ifNo X222.here hx rfl (dq (dg dvo 1 rfl)) rfl ((if0 _ _).trans (feq hzc).1)) ?_
  refine R1 (XS.iloadN X222.here hx rfl (dq (dg dvo 2 rfl)) rfl) ?_
  show Rch p e below T222 (mkF m 7 #[vI ch] [(.int ch)]) _
  obtain ⟨_, _, ⟨T223, L223, k223, n223⟩, -, X223, ⟨Lc223, hQ223, l223, y223, z223⟩, st223⟩ := Jvm.LawKit.callS X222 hx (y := mN31) hown (mw hZ hw 9 rfl) (mw hZ hw 10 rfl) (mw hZ hw 11 rfl) (mw hZ hw 12 rfl) (by decide) (backOf (W := 0) (rm_canEnc l Z a0 hw [] ch h0 n0 Z0 hc.2) hZ (wq hw 12 rfl) (wq hw 11 rfl) (by decide) (by decide)) (g := (mkF m 7 #[vI ch] [(.int ch)])) rfl (by rw [hml]; rfl) (argsL := [(.int ch)]) (rest := []) (lenOf pd_15 rfl) rfl (w0 rfl) (dq (dg dvo 3 rfl)) (fun _ _ => ⟨rfl, e222, (by decide : 0 + 0 ≤ _), (by decide : 0 + 0 ≤ _)⟩)
  dsimp only [Pt.U, Pt.locs, Pt.cells, Pt.slots] at X223 l223 y223 z223 st223 hQ223
  subst l223 y223 z223
  obtain ⟨rfl, Nq223, e223⟩ := hQ223
  have N223 := Fr.app N0 Nq223
  refine R0_ st223 ?_
  show Rch p e below T223 (mkF m 10 #[vI ch] [(.int (1 : Int32))]) _
  refine R1 (XS.ifNo X223.here hx rfl (dq (dg dvo 4 rfl)) rfl (by decide : ifCond.holds .eq (1 : Int32) = false)) ?_
  show Rch p e below T223 (mkF m 13 #[vI ch] []) _
  obtain ⟨T224, h224, X224, e224, E224, A224, D224, -, st224⟩ := newO X223 hx hZ hown (wq hw 13 rfl) (wq hw 14 rfl) (wq hw 6 rfl) e223 (g := (mkF m 13 #[vI ch] [])) rfl (dq (dg dvo 5 rfl)) (by decide) (by decide)
  obtain ⟨a224, g224⟩ : ∃ z, z = h0.size := ⟨_, rfl⟩
  rw [← g224] at A224 D224 st224
  have Ex225 : Ext h0 h224 := E224
  have le226 : h0.size ≤ a224 := Nat.le_of_eq g224.symm
  refine R0_ st224 ?_
  show Rch p e below T224 (mkF m 16 #[vI ch] [(.ref a224)]) _
  refine R1 (XS.dup X224.here hx rfl (dq (dg dvo 6 rfl)) rfl rfl) ?_
  refine R1 (XS.iloadN X224.here hx rfl (dq (dg dvo 7 rfl)) rfl) ?_
  show Rch p e below T224 (mkF m 18 #[vI ch] [(.int ch), (.ref a224), (.ref a224)]) _
  obtain ⟨_, _, ⟨T227, L227, k227, n227⟩, -, X227, ⟨Lc227, hQ227, l227, y227, z227⟩, st227⟩ := Jvm.LawKit.callS X224 hx (y := mN32) hown (mw hZ hw 15 rfl) (mw hZ hw 16 rfl) (mw hZ hw 11 rfl) (mw hZ hw 17 rfl) (by decide) (backOf (W := 2) (rm_toB l Z a0 hw [] ch h224 n0 (Nat.le_trans Z0 Ex225.1)) hZ (wq hw 17 rfl) (wq hw 11 rfl) (by decide) (by decide)) (g := (mkF m 18 #[vI ch] [(.int ch), (.ref a224), (.ref a224)])) rfl (by rw [hml]; rfl) (argsL := [(.int ch)]) (rest := [(.ref a224), (.ref a224)]) (lenOf pd_16 rfl) rfl (w0 rfl) (dq (dg dvo 8 rfl)) (fun _ _ => ⟨rfl, e224, (by decide : 1 + 1 ≤ _), (by decide : 4 + 1 ≤ _)⟩)
  dsimp only [Pt.U, Pt.locs, Pt.cells, Pt.slots] at X227 l227 y227 z227 st227 hQ227
  subst l227 y227 z227
  obtain ⟨b227, kb227, rfl, Nq227, E227, le227_, V227⟩ := hQ227
  have N227 := Fr.app N223 Nq227
  have Ex228 : Ext h0 T227.heap := Ex225.tr E227
  have Ex229 : Ext h224 T227.heap := E227
  refine R0_ st227 ?_
  show Rch p e below T227 (mkF m 21 #[vI ch] [(.ref b227), (.ref a224), (.ref a224)]) _
  refine R1 (XS.iconst X227.here hx rfl (dq (dg dvo 9 rfl)) ) ?_
  show Rch p e below T227 (mkF m 22 #[vI ch] [(.int (0 : Int32)), (.ref b227), (.ref a224), (.ref a224)]) _
  obtain ⟨_, _, ⟨T230, L230, k230, n230⟩, -, X230, ⟨Lc230, hQ230, l230, y230, z230⟩, st230⟩ := X227.specialBack hx (y := mN33) rfl hown (mw hZ hw 19 rfl) (mw hZ hw 20 rfl) (mw hZ hw 22 rfl) (by decide) (backOf (W := 1) (rm_sinit l Z a0 hw [] a224 b227 kb227 ch T227.heap n0 (Nat.le_trans Z0 Ex228.1) (Nat.le_trans Z0 le226) (A224.ext Ex229) ((D224 (Or.inr (wq hw 27 rfl)) (ty := (.array .byte)) (by decide)).ext Ex229) ((D224 (Or.inr (wq hw 29 rfl)) (ty := .byte) (by decide)).ext Ex229) V227 hc) hZ (wq hw 22 rfl) (wq hw 6 rfl) (by decide) (by decide)) (g := (mkF m 22 #[vI ch] [(.int (0 : Int32)), (.ref b227), (.ref a224), (.ref a224)])) rfl (by rw [hml]; rfl) (Steps.refl _) (a := a224) (argsL := [(.ref b227), (.int (0 : Int32))]) (rest := [(.ref a224)]) (lenOf pd_17 rfl) rfl (w0 rfl) (dq (dg dvo 10 rfl)) (fun _ _ => ⟨rfl, rfl, (by decide : 2 + 0 ≤ _), (by decide : 5 + 0 ≤ _)⟩)
  dsimp only [Pt.U, Pt.locs, Pt.cells, Pt.slots] at X230 l230 y230 z230 st230 hQ230
  subst l230 y230 z230
  obtain ⟨rfl, Nq230, K230, Q230⟩ := hQ230
  have N230 := Fr.app N227 Nq230
  have Ex231 : Ext h0 T230.heap := extKeep1 Ex228 K230 le226
  refine R2 st230 ?_
  show Rch p e below T230 (mkF m 25 #[vI ch] [(.ref a224)]) _
  exact Rch.fin (Q := Q_valueOf Z ch h0 n0) X230 (v := some (.ref a224)) (fun h => by rw [Bd.returns] at h; cases h) (BodyLoose.notSynchronized Bd) (fun fs hr => retR X230 hx Bd.returns rfl rfl (dq (dg dvo 11 rfl)) hr) ⟨a224, rfl, N230, Ex231, Q230⟩ (by decide) (by decide)
def Sl (Z : State) (h : Heap) (x : Addr) (n : Nat) : Prop := ∃ t kb vs, Exa Z h x "java/lang/String" ∧ Fld Z h x "java/lang/String" "value" "[B" (.ref t) ∧ Fld Z h x "java/lang/String" "coder" "B" (.int 0) ∧ Arv Z h t kb .byte (Int32.ofNat n) vs (.int 0)
theorem Sl.ext {Z : State} {h h' : Heap} {x : Addr} {n : Nat} (A : Sl Z h x n) (E : Ext h h') : Sl Z h' x n := by obtain ⟨t, kb, vs, q1, q2, q3, q4⟩ := A; exact ⟨t, kb, vs, q1.ext E, q2.ext E, q3.ext E, q4.ext E⟩
theorem Sl.exa {Z : State} {h : Heap} {x : Addr} {n : Nat} (A : Sl Z h x n) : Exa Z h x "java/lang/String" := by obtain ⟨t, kb, vs, q1, -⟩ := A; exact q1
theorem slOf {Z : State} {h : Heap} {x : Addr} {cs : List Int32} (A : StrA Z h x cs) (hb : ∀ c ∈ cs, ¬ (255 : Int32) < c) : Sl Z h x cs.length := by
  obtain ⟨t, kb, cd, N2, vs, q1, q2, q3, q4, q5, -⟩ := A
  rcases q5 with ⟨rfl, rfl, -, -⟩ | ⟨-, -, -, c, hc, q⟩
  · exact ⟨t, kb, vs, q1, q2, q3, q4⟩
  · exact absurd q (hb c hc)
def Sb (Z : State) (h : Heap) (a va : Addr) (c : Nat) : Prop := Exa Z h a "java/lang/StringBuilder" ∧ Fld Z h a "java/lang/AbstractStringBuilder" "value" "[B" (.ref va) ∧ Fld Z h a "java/lang/AbstractStringBuilder" "coder" "B" (.int 0) ∧ Fld Z h a "java/lang/AbstractStringBuilder" "count" "I" (.int (Int32.ofNat c)) ∧ ∃ k vs, Arv Z h va k .byte 16 vs (.int 0) ∧ vs.length = 16
theorem Sb.ext {Z : State} {h h' : Heap} {a va : Addr} {c : Nat} (A : Sb Z h a va c) (E : Ext h h') : Sb Z h' a va c := by obtain ⟨q1, q2, q3, q4, k, vs, q5, q6⟩ := A; exact ⟨q1.ext E, q2.ext E, q3.ext E, q4.ext E, k, vs, q5.ext E, q6⟩
theorem shl0 (x : Int32) : x <<< ((0 : Int32) &&& 31) = x := by
  rw [show ((0 : Int32) &&& 31) = 0 from by decide]; simp
theorem shr0 (x : Int32) : x >>> ((0 : Int32) &&& 31) = x := by
  rw [show ((0 : Int32) &&& 31) = 0 from by decide]; simp
theorem ofN_add (a b : Nat) : Int32.ofNat a + Int32.ofNat b = Int32.ofNat (a + b) := by simp
theorem ofN_cl {a : Nat} (h : a ≤ 16) : (Int32.ofNat a).toNatClampNeg = a := by
  have t : ∀ k : Fin 17, (Int32.ofNat k.val).toNatClampNeg = k.val := by decide
  exact t ⟨a, by omega⟩
theorem ofN_nn {a : Nat} (h : a ≤ 16) : ¬ Int32.ofNat a < 0 := by
  have t : ∀ k : Fin 17, ¬ Int32.ofNat k.val < 0 := by decide
  exact t ⟨a, by omega⟩
theorem ofN_lt16 {a : Nat} (h : a ≤ 15) : Int32.ofNat a < 16 := by
  have t : ∀ k : Fin 16, Int32.ofNat k.val < 16 := by decide
  exact t ⟨a, by omega⟩
theorem add1n (n : Nat) : Int32.ofNat n + (1 : Int32) = Int32.ofNat (n + 1) := ofN_add n 1
theorem ofN_sub16 {a : Nat} (h : a ≤ 16) : ¬ (0 : Int32) < Int32.ofNat a - 16 := by
  have t : ∀ k : Fin 17, ¬ (0 : Int32) < Int32.ofNat k.val - 16 := by decide
  exact t ⟨a, by omega⟩
theorem same_of {Z : State} {a0 : Array Value} {C : String} {y u : MethodName} (w3 : (Cond.instanceMethod y).before a0 Z = true) (ws : (Cond.selects C u u).before a0 Z = true) (hu : u.cls = y.cls) (hy : y.cls ≠ "java/lang/invoke/MethodHandle" ∧ y.cls ≠ "java/lang/invoke/VarHandle") : (Cond.sameMethod y.cls y.cls y.name y.desc).before a0 Z = true := by
  obtain ⟨m, meth, h1, h2, -, -⟩ := Cond.instanceMethod_spec w3
  have hf := State.methodFound?_of_named h1 hy
  have hc := findClass_of_methodNamed h1
  obtain ⟨c2, r2, m2, q1, q2, q3, q4, kP, hkP, hkPi⟩ := Cond.selects_spec ws
  have hc2 := findClass_of_methodNamed q3
  rw [hu] at hc2
  have e := Option.some.inj (hc2.symm.trans hc)
  rw [e] at hkP
  have h1' : Z.methodNamed? ⟨y.cls, y.name, y.desc⟩ = some m := h1
  simp [Cond.before, Cond.holds, Cond.value, hc, hf, h1', hkP, hkPi]
theorem sb_vc {Z : State} {a0 : Array Value} (hw : ∀ d ∈ tables_1, d.before a0 Z = true) : Jvm.RoadKit.slotOf Z "java/lang/AbstractStringBuilder" "value" "[B" ≠ Jvm.RoadKit.slotOf Z "java/lang/AbstractStringBuilder" "coder" "B" := slot_ne (C := "java/lang/StringBuilder") (Or.inl (wq hw 268 rfl)) (Or.inl (wq hw 270 rfl)) (by decide) (t := (.array .byte)) (t' := .byte) (by decide) (by decide)
theorem sb_vn {Z : State} {a0 : Array Value} (hw : ∀ d ∈ tables_1, d.before a0 Z = true) : Jvm.RoadKit.slotOf Z "java/lang/AbstractStringBuilder" "value" "[B" ≠ Jvm.RoadKit.slotOf Z "java/lang/AbstractStringBuilder" "count" "I" := slot_ne (C := "java/lang/StringBuilder") (Or.inl (wq hw 268 rfl)) (Or.inl (wq hw 292 rfl)) (by decide) (t := (.array .byte)) (t' := .int) (by decide) (by decide)
theorem sb_cn {Z : State} {a0 : Array Value} (hw : ∀ d ∈ tables_1, d.before a0 Z = true) : Jvm.RoadKit.slotOf Z "java/lang/AbstractStringBuilder" "coder" "B" ≠ Jvm.RoadKit.slotOf Z "java/lang/AbstractStringBuilder" "count" "I" := slot_ne (C := "java/lang/StringBuilder") (Or.inl (wq hw 270 rfl)) (Or.inl (wq hw 292 rfl)) (by decide) (t := .byte) (t' := .int) (by decide) (by decide)
theorem sb_ne {Z : State} {a0 : Array Value} (hw : ∀ d ∈ tables_1, d.before a0 Z = true) {h : Heap} {a va : Addr} {c : Nat} (A : Sb Z h a va c) : a ≠ va := by obtain ⟨q1, q2, q3, q4, k, vs, q5, q6⟩ := A; exact q1.neArv q5 (wq hw 254 rfl)
theorem sb_wrN {Z : State} {a0 : Array Value} (hw : ∀ d ∈ tables_1, d.before a0 Z = true) {h h' : Heap} {a va : Addr} {c d : Nat} (A : Sb Z h a va c) (W : Wr h h' a (Jvm.RoadKit.slotOf Z "java/lang/AbstractStringBuilder" "count" "I") (.int (Int32.ofNat d))) : Sb Z h' a va d := by
  have ne := sb_ne hw A
  obtain ⟨q1, q2, q3, q4, k, vs, q5, q6⟩ := A
  exact ⟨q1.wr W, q2.other W (Or.inr (sb_vn hw)), q3.other W (Or.inr (sb_cn hw)), q4.same W, k, vs, q5.other W (Ne.symm ne), q6⟩
theorem sb_kpA {Z : State} {a0 : Array Value} (hw : ∀ d ∈ tables_1, d.before a0 Z = true) {h h' : Heap} {a va : Addr} {c : Nat} (A : Sb Z h a va c) (K : Keep h h' [va]) (V : ∃ k vs, Arv Z h' va k .byte 16 vs (.int 0) ∧ vs.length = 16) : Sb Z h' a va c := by
  have ne : a ∉ [va] := ninS (sb_ne hw A) nin0
  obtain ⟨q1, q2, q3, q4, -⟩ := A
  exact ⟨q1.keep K, q2.keep K ne, q3.keep K ne, q4.keep K ne, V⟩
theorem dco : dxs jdk_42_method_152_code [(0, .getstatic 38, 3), (3, .ifCond .eq 10, 3), (6, .aload_n 0, 1), (7, .getfield 15, 3), (10, .goto 4, 3), (14, .ireturn, 1)] = true := by decide +kernel
theorem pn_cod : plainFor (⟨"java/lang/String", "coder", "()B"⟩ : MethodName) = true := plainFor_of_name (by first | (simp [plainName, overriddenIn]; done) | decide +kernel)
def Q_cod (Z : State) (x : Addr) (n : Nat) (h0 : Heap) (n0 : Nat) (v : Option Value) (h : Heap) (L : List Loc) : Prop := v = some (.int 0) ∧ Fr n0 L ∧ h = h0
set_option maxRecDepth 65536 in
set_option maxHeartbeats 40000000 in
theorem rm_cod (l : Launch) (Z : State) (a0 : Array Value) (hw : ∀ d ∈ tables_1, d.before a0 Z = true) (ws : List Jvm.Cond) (x : Addr) (n : Nat) (h0 : Heap) (n0 : Nat) (Z0 : n0 ≤ h0.size) (S : Sl Z h0 x n) (CS : Cmp Z h0) :
    MetFree l mN35 (head1 (Jvm.Cond.code mN35 jdk_42_method_152_code 1 (some .byte) :: ws) rO3) (fun a U => a = #[(.ref x)] ∧ Z.Warmed39 U.vm ∧ U.heap = h0) (fun _ _ _ _ _ => True) (fun _ U o U' => ∃ v L, o = .returned v ∧ Q_cod Z x n h0 n0 v U'.heap L ∧ FrameEnd U o U' L rO3.cells rO3.slots) := by
  refine MetFree.of_bodySF pn_cod hisR ?_
  intro p e s m args below meth c s₁ Bd hml0 hP hK
  obtain ⟨rfl, hZ, hh⟩ := hP
  have hx := Bd.exec
  have hby := Bd.bytes
  have dq := @hb _ _ hby
  have hml : c.maxLocals = 1 := hml0
  have hown : s.vm.findClass "java/lang/String" = some m.cls := findClass_of_methodNamed Bd.named
  have X0 : Stand p l e rO3 s m #[(.ref x)] below meth c s₁ [] 0 0 := Stand.of_body Bd
  have e0 : s₁.heap = h0 := by rw [← hh, Bd.state]; rfl
  have N0 := Fr.nil n0
  show Rch p e below s₁ (entryFrame m #[(.ref x)] 1) (fun U o => ∃ v L, o = .returned v ∧ Q_cod Z x n h0 n0 v U.heap L ∧ FrameEnd s o U L rO3.cells rO3.slots)
  refine Rch.cast (ef_acInit m x) ?_
  show Rch p e below s₁ (mkF m 0 #[vR x] []) _
  obtain ⟨zc, Sz, hzc⟩ := id CS
  obtain ⟨t, kb, vs, E1, F1, F2, V1⟩ := id S
  obtain ⟨T232, X232, e232, st232⟩ := getS2 X0 hx hZ hown (host := "") (Or.inl (wq hw 8 rfl)) Via.refl e0 Sz (g := (mkF m 0 #[vR x] [])) rfl (dq (dg dco 0 rfl))
  refine R0_ st232 ?_
  show Rch p e below T232 (mkF m 3 #[vR x] [(.int zc)]) _
  refine R1 (XS.ifNo X232.here hx rfl (dq (dg dco 1 rfl)) rfl ((if0 _ _).trans (feq hzc).1)) ?_
  refine R1 (XS.aloadN X232.here hx rfl (dq (dg dco 2 rfl)) rfl rfl) ?_
  show Rch p e below T232 (mkF m 7 #[vR x] [(.ref x)]) _
  obtain ⟨T233, X233, e233, st233⟩ := getF X232 hx hZ hown (host := "") (Or.inl (wq hw 28 rfl)) Via.refl e232 F2 (g := (mkF m 7 #[vR x] [(.ref x)])) rfl rfl (dq (dg dco 3 rfl))
  refine R0_ st233 ?_
  show Rch p e below T233 (mkF m 10 #[vR x] [(.int (0 : Int32))]) _
  refine R1 (XS.goto X233.here hx rfl (pc0 := 10) (pc' := 14) rfl (dq (dg dco 4 rfl)) (by decide) (by decide)) ?_
  show Rch p e below T233 (mkF m 14 #[vR x] [(.int (0 : Int32))]) _
  exact Rch.fin (Q := Q_cod Z x n h0 n0) X233 (v := some (.int (0 : Int32))) (fun h => by rw [Bd.returns] at h; cases h) (BodyLoose.notSynchronized Bd) (fun fs hr => retN X233 hx (t := .byte) Bd.returns (by simp) (dq (dg dco 5 rfl)) hr) (by rw [e233]; exact ⟨rfl, N0, rfl⟩) (by decide) (by decide)
theorem dsl : dxs jdk_42_method_54_code [(0, .aload_n 0, 1), (1, .getfield 9, 3), (4, .arraylength, 1), (5, .aload_n 0, 1), (6, .invokevirtual 335, 3), (9, .ishr, 1), (10, .ireturn, 1)] = true := by decide +kernel
theorem pn_slen : plainFor (⟨"java/lang/String", "length", "()I"⟩ : MethodName) = true := plainFor_of_name (by first | (simp [plainName, overriddenIn]; done) | decide +kernel)
def Q_slen (Z : State) (x : Addr) (n : Nat) (h0 : Heap) (n0 : Nat) (v : Option Value) (h : Heap) (L : List Loc) : Prop := v = some (.int (Int32.ofNat n)) ∧ Fr n0 L ∧ h = h0
set_option maxRecDepth 65536 in
set_option maxHeartbeats 40000000 in
theorem rm_slen (l : Launch) (Z : State) (a0 : Array Value) (hw : ∀ d ∈ tables_1, d.before a0 Z = true) (ws : List Jvm.Cond) (x : Addr) (n : Nat) (h0 : Heap) (n0 : Nat) (Z0 : n0 ≤ h0.size) (S : Sl Z h0 x n) (CS : Cmp Z h0) :
    MetFree l mN36 (head1 (Jvm.Cond.code mN36 jdk_42_method_54_code 1 (some .int) :: ws) rO30) (fun a U => a = #[(.ref x)] ∧ Z.Warmed39 U.vm ∧ U.heap = h0) (fun _ _ _ _ _ => True) (fun _ U o U' => ∃ v L, o = .returned v ∧ Q_slen Z x n h0 n0 v U'.heap L ∧ FrameEnd U o U' L rO30.cells rO30.slots) := by
  refine MetFree.of_bodySF pn_slen hisR ?_
  intro p e s m args below meth c s₁ Bd hml0 hP hK
  obtain ⟨rfl, hZ, hh⟩ := hP
  have hx := Bd.exec
  have hby := Bd.bytes
  have dq := @hb _ _ hby
  have hml : c.maxLocals = 1 := hml0
  have hown : s.vm.findClass "java/lang/String" = some m.cls := findClass_of_methodNamed Bd.named
  have X0 : Stand p l e rO30 s m #[(.ref x)] below meth c s₁ [] 0 0 := Stand.of_body Bd
  have e0 : s₁.heap = h0 := by rw [← hh, Bd.state]; rfl
  have N0 := Fr.nil n0
  show Rch p e below s₁ (entryFrame m #[(.ref x)] 1) (fun U o => ∃ v L, o = .returned v ∧ Q_slen Z x n h0 n0 v U.heap L ∧ FrameEnd s o U L rO30.cells rO30.slots)
  refine Rch.cast (ef_acInit m x) ?_
  show Rch p e below s₁ (mkF m 0 #[vR x] []) _
  obtain ⟨t, kb, vs, E1, F1, F2, V1⟩ := id S
  refine R1 (XS.aloadN X0.here hx rfl (dq (dg dsl 0 rfl)) rfl rfl) ?_
  show Rch p e below s₁ (mkF m 1 #[vR x] [(.ref x)]) _
  obtain ⟨T234, X234, e234, st234⟩ := getF X0 hx hZ hown (host := "") (Or.inl (wq hw 26 rfl)) Via.refl e0 F1 (g := (mkF m 1 #[vR x] [(.ref x)])) rfl rfl (dq (dg dsl 1 rfl))
  refine R0_ st234 ?_
  show Rch p e below T234 (mkF m 4 #[vR x] [(.ref t)]) _
  refine R0_ (alenA X234 hx hZ e234 V1.arh (g := (mkF m 4 #[vR x] [(.ref t)])) rfl rfl (dq (dg dsl 2 rfl))) ?_
  show Rch p e below T234 (mkF m 5 #[vR x] [(.int (Int32.ofNat n))]) _
  refine R1 (XS.aloadN X234.here hx rfl (dq (dg dsl 3 rfl)) rfl rfl) ?_
  show Rch p e below T234 (mkF m 6 #[vR x] [(.ref x), (.int (Int32.ofNat n))]) _
  obtain ⟨cq235, kq235, q235a, q235b, q235c⟩ := isOf hZ e234 E1
  obtain ⟨_, _, ⟨T235, L235, k235, n235⟩, -, X235, ⟨Lc235, hQ235, l235, y235, z235⟩, st235⟩ := X234.virtualBack hx (y := mN35) (z := mN35) hown (mw hZ hw 286 rfl) (mw hZ hw 287 rfl) (notFace_of_selects (args := #[]) (mw hZ hw 289 rfl)) (mw hZ hw 289 rfl) (mw hZ hw 288 rfl) (by decide) (backOf (W := 1) (rm_cod l Z a0 hw [] x n h0 n0 Z0 S CS) hZ (wq hw 290 rfl) (wq hw 6 rfl) (by decide) (by decide)) q235a q235c (g := (mkF m 6 #[vR x] [(.ref x), (.int (Int32.ofNat n))])) rfl (by rw [hml]; rfl) (Steps.refl _) (argsL := []) (rest := [(.int (Int32.ofNat n))]) (lenOf pd_18 rfl) rfl (w0 rfl) (dq (dg dsl 4 rfl)) (fun _ _ => ⟨rfl, e234, (by decide : 0 + 0 ≤ _), (by decide : 0 + 0 ≤ _)⟩)
  dsimp only [Pt.U, Pt.locs, Pt.cells, Pt.slots] at X235 l235 y235 z235 st235 hQ235
  subst l235 y235 z235
  obtain ⟨rfl, Nq235, e235⟩ := hQ235
  have N235 := Fr.app N0 Nq235
  refine R2 st235 ?_
  show Rch p e below T235 (mkF m 9 #[vR x] [(.int (0 : Int32)), (.int (Int32.ofNat n))]) _
  refine R1 (XT.ishr X235.here hx rfl (dq (dg dsl 5 rfl)) rfl) ?_
  show Rch p e below T235 (mkF m 10 #[vR x] [(.int ((Int32.ofNat n) >>> ((0 : Int32) &&& 31)))]) _
  rw [shr0]
  show Rch p e below T235 (mkF m 10 #[vR x] [(.int (Int32.ofNat n))]) _
  exact Rch.fin (Q := Q_slen Z x n h0 n0) X235 (v := some (.int (Int32.ofNat n))) (fun h => by rw [Bd.returns] at h; cases h) (BodyLoose.notSynchronized Bd) (fun fs hr => retI X235 hx Bd.returns (dq (dg dsl 6 rfl)) hr) (by rw [e235]; exact ⟨rfl, N235, rfl⟩) (by decide) (by decide)
theorem dsb : dxs jdk_68_method_2_code [(0, .aload_n 0, 1), (1, .invokespecial 3, 3), (4, .getstatic 18, 3), (7, .ifCond .eq 18, 3), (10, .aload_n 0, 1), (11, .iload_n 1, 1), (12, .newarray .byte, 2), (14, .putfield 15, 3), (17, .aload_n 0, 1), (18, .iconst 0, 1), (19, .putfield 22, 3), (22, .goto 16, 3), (38, .return_, 1)] = true := by decide +kernel
theorem pn_asbInit : plainFor (⟨"java/lang/AbstractStringBuilder", "<init>", "(I)V"⟩ : MethodName) = true := plainFor_of_name (by first | (simp [plainName, overriddenIn]; done) | decide +kernel)
def Q_asbInit (Z : State) (ta : Addr) (h0 : Heap) (n0 : Nat) (v : Option Value) (h : Heap) (L : List Loc) : Prop := ∃ va, v = none ∧ Fr n0 L ∧ Keep h0 h [ta] ∧ h0.size ≤ va ∧ Sb Z h ta va 0
set_option maxRecDepth 65536 in
set_option maxHeartbeats 40000000 in
theorem rm_asbInit (l : Launch) (Z : State) (a0 : Array Value) (hw : ∀ d ∈ tables_1, d.before a0 Z = true) (ws : List Jvm.Cond) (ta : Addr) (h0 : Heap) (n0 : Nat) (Z0 : n0 ≤ h0.size) (hthis : n0 ≤ ta) (E1 : Exa Z h0 ta "java/lang/StringBuilder") (F1 : Fld Z h0 ta "java/lang/AbstractStringBuilder" "value" "[B" .null) (F2 : Fld Z h0 ta "java/lang/AbstractStringBuilder" "coder" "B" (.int 0)) (F3 : Fld Z h0 ta "java/lang/AbstractStringBuilder" "count" "I" (.int 0)) (CS : Cmp Z h0) :
    MetFree l mN37 (head1 (Jvm.Cond.code mN37 jdk_68_method_2_code 2 none :: ws) rO31) (fun a U => a = #[(.ref ta), (.int (16 : Int32))] ∧ Z.Warmed39 U.vm ∧ U.heap = h0) (fun _ _ _ _ _ => True) (fun _ U o U' => ∃ v L, o = .returned v ∧ Q_asbInit Z ta h0 n0 v U'.heap L ∧ FrameEnd U o U' L rO31.cells rO31.slots) := by
  refine MetFree.of_bodySF pn_asbInit hisR ?_
  intro p e s m args below meth c s₁ Bd hml0 hP hK
  obtain ⟨rfl, hZ, hh⟩ := hP
  have hx := Bd.exec
  have hby := Bd.bytes
  have dq := @hb _ _ hby
  have hml : c.maxLocals = 2 := hml0
  have hown : s.vm.findClass "java/lang/AbstractStringBuilder" = some m.cls := findClass_of_methodNamed Bd.named
  have X0 : Stand p l e rO31 s m #[(.ref ta), (.int (16 : Int32))] below meth c s₁ [] 0 0 := Stand.of_body Bd
  have e0 : s₁.heap = h0 := by rw [← hh, Bd.state]; rfl
  have N0 := Fr.nil n0
  show Rch p e below s₁ (entryFrame m #[(.ref ta), (.int (16 : Int32))] 2) (fun U o => ∃ v L, o = .returned v ∧ Q_asbInit Z ta h0 n0 v U.heap L ∧ FrameEnd s o U L rO31.cells rO31.slots)
  refine Rch.cast (ef_alElem m ta (16 : Int32)) ?_
  show Rch p e below s₁ (mkF m 0 #[vR ta, vI (16 : Int32)] []) _
  obtain ⟨zc, Sz, hzc⟩ := id CS
  refine R1 (XS.aloadN X0.here hx rfl (dq (dg dsb 0 rfl)) rfl rfl) ?_
  show Rch p e below s₁ (mkF m 1 #[vR ta, vI (16 : Int32)] [(.ref ta)]) _
  obtain ⟨T236, X236, e236, st236⟩ := initO X0 hx hZ hown (wq hw 265 rfl) (wq hw 24 rfl) (wq hw 25 rfl) e0 (g := (mkF m 1 #[vR ta, vI (16 : Int32)] [(.ref ta)])) rfl (by rw [hml]; rfl) rfl (dq (dg dsb 1 rfl)) (by decide) (W := 0) (w0 rfl) (by decide)
  refine R0_ st236 ?_
  show Rch p e below T236 (mkF m 4 #[vR ta, vI (16 : Int32)] []) _
  obtain ⟨T237, X237, e237, st237⟩ := getS2 X236 hx hZ hown (host := "") (Or.inl (wq hw 266 rfl)) Via.refl e236 Sz (g := (mkF m 4 #[vR ta, vI (16 : Int32)] [])) rfl (dq (dg dsb 2 rfl))
  refine R0_ st237 ?_
  show Rch p e below T237 (mkF m 7 #[vR ta, vI (16 : Int32)] [(.int zc)]) _
  refine R1 (XS.ifNo X237.here hx rfl (dq (dg dsb 3 rfl)) rfl ((if0 _ _).trans (feq hzc).1)) ?_
  refine R1 (XS.aloadN X237.here hx rfl (dq (dg dsb 4 rfl)) rfl rfl) ?_
  refine R1 (XS.iloadN X237.here hx rfl (dq (dg dsb 5 rfl)) rfl) ?_
  show Rch p e below T237 (mkF m 12 #[vR ta, vI (16 : Int32)] [(.int (16 : Int32)), (.ref ta)]) _
  obtain ⟨T238, h238, k238, X238, e238, E238, A238, st238⟩ := newP X237 hx hZ (wq hw 18 rfl) e237 (g := (mkF m 12 #[vR ta, vI (16 : Int32)] [(.int (16 : Int32)), (.ref ta)])) rfl (dq (dg dsb 6 rfl)) rfl (by decide : ¬ ((16 : Int32) < (0 : Int32))) (cap := 16) (by decide : ((16 : Int32)).toNatClampNeg ≤ 16) (by decide) (by decide) (by decide)
  obtain ⟨a238, g238⟩ : ∃ z, z = h0.size := ⟨_, rfl⟩
  rw [← g238] at A238 st238
  have Ex239 : Ext h0 h238 := E238
  have KK240 : Keep h0 h238 [ta] := (Keep.refl _ _).ext E238
  have le241 : h0.size ≤ a238 := Nat.le_of_eq g238.symm
  refine R0_ st238 ?_
  show Rch p e below T238 (mkF m 14 #[vR ta, vI (16 : Int32)] [(.ref a238), (.ref ta)]) _
  have V238 : Arv Z h238 a238 k238 .byte (16 : Int32) [(.int (0 : Int32)), (.int (0 : Int32)), (.int (0 : Int32)), (.int (0 : Int32)), (.int (0 : Int32)), (.int (0 : Int32)), (.int (0 : Int32)), (.int (0 : Int32)), (.int (0 : Int32)), (.int (0 : Int32)), (.int (0 : Int32)), (.int (0 : Int32)), (.int (0 : Int32)), (.int (0 : Int32)), (.int (0 : Int32)), (.int (0 : Int32))] (.int (0 : Int32)) := (Arv.new A238 (by decide : ¬ ((16 : Int32) < (0 : Int32)))).pad (pad_rep [] (.int (0 : Int32)) 16)
  obtain ⟨T242, h242, X242, e242, W242, st242⟩ := putF X238 hx hZ hown (host := "") (Or.inl (wq hw 267 rfl)) Via.refl e238 (F1.ext Ex239) (E1.ext Ex239) (Or.inl (wq hw 268 rfl)) (wq hw 254 rfl) (ty := (.array .byte)) (by decide) rfl rfl (g := (mkF m 14 #[vR ta, vI (16 : Int32)] [(.ref a238), (.ref ta)])) rfl rfl (dq (dg dsb 7 rfl))
  have KK243 : Keep h0 h242 [ta] := KK240.wr W242 (Or.inl (by simp))
  have N242 := Fr.snoc X242 N0 hthis
  refine R0_ st242 ?_
  show Rch p e below T242 (mkF m 17 #[vR ta, vI (16 : Int32)] []) _
  refine R1 (XS.aloadN X242.here hx rfl (dq (dg dsb 8 rfl)) rfl rfl) ?_
  refine R1 (XS.iconst X242.here hx rfl (dq (dg dsb 9 rfl)) ) ?_
  show Rch p e below T242 (mkF m 19 #[vR ta, vI (16 : Int32)] [(.int (0 : Int32)), (.ref ta)]) _
  obtain ⟨T244, h244, X244, e244, W244, st244⟩ := putF X242 hx hZ hown (host := "") (Or.inl (wq hw 269 rfl)) Via.refl e242 ((F2.ext Ex239).other W242 (Or.inr (Ne.symm (sb_vc hw)))) ((E1.ext Ex239).wr W242) (Or.inl (wq hw 270 rfl)) (wq hw 254 rfl) (ty := .byte) (by decide) rfl rfl (g := (mkF m 19 #[vR ta, vI (16 : Int32)] [(.int (0 : Int32)), (.ref ta)])) rfl rfl (dq (dg dsb 10 rfl))
  have KK245 : Keep h0 h244 [ta] := KK243.wr W244 (Or.inl (by simp))
  have N244 := Fr.snoc X244 N242 hthis
  refine R0_ st244 ?_
  show Rch p e below T244 (mkF m 22 #[vR ta, vI (16 : Int32)] []) _
  refine R1 (XS.goto X244.here hx rfl (pc0 := 22) (pc' := 38) rfl (dq (dg dsb 11 rfl)) (by decide) (by decide)) ?_
  show Rch p e below T244 (mkF m 38 #[vR ta, vI (16 : Int32)] []) _
  have ne : ta ≠ a238 := (E1.ext Ex239).neArv V238 (wq hw 254 rfl)
  exact Rch.fin (Q := Q_asbInit Z ta h0 n0) X244 (v := none) (fun _ => rfl) (BodyLoose.notSynchronized Bd) (fun fs hr => X244.returnOut hx Bd.returns (dq (dg dsb 12 rfl)) hr) (by rw [e244]; exact ⟨a238, rfl, N244, KK245, le241, ((E1.ext Ex239).wr W242).wr W244, ((F1.ext Ex239).same W242).other W244 (Or.inr (sb_vc hw)), ((F2.ext Ex239).other W242 (Or.inr (Ne.symm (sb_vc hw)))).same W244, ((F3.ext Ex239).other W242 (Or.inr (Ne.symm (sb_vn hw)))).other W244 (Or.inr (Ne.symm (sb_cn hw))), _, _, (V238.other W242 (Ne.symm ne)).other W244 (Ne.symm ne), rfl⟩) (by decide) (by decide)
theorem dbi : dxs jdk_67_method_1_code [(0, .aload_n 0, 1), (1, .bipush 16, 2), (3, .invokespecial 1, 3), (6, .return_, 1)] = true := by decide +kernel
theorem pn_sbInit : plainFor (⟨"java/lang/StringBuilder", "<init>", "()V"⟩ : MethodName) = true := plainFor_of_name (by first | (simp [plainName, overriddenIn]; done) | decide +kernel)
def Q_sbInit (Z : State) (ta : Addr) (h0 : Heap) (n0 : Nat) (v : Option Value) (h : Heap) (L : List Loc) : Prop := ∃ va, v = none ∧ Fr n0 L ∧ Keep h0 h [ta] ∧ h0.size ≤ va ∧ Sb Z h ta va 0
set_option maxRecDepth 65536 in
set_option maxHeartbeats 40000000 in
theorem rm_sbInit (l : Launch) (Z : State) (a0 : Array Value) (hw : ∀ d ∈ tables_1, d.before a0 Z = true) (ws : List Jvm.Cond) (ta : Addr) (h0 : Heap) (n0 : Nat) (Z0 : n0 ≤ h0.size) (hthis : n0 ≤ ta) (E1 : Exa Z h0 ta "java/lang/StringBuilder") (F1 : Fld Z h0 ta "java/lang/AbstractStringBuilder" "value" "[B" .null) (F2 : Fld Z h0 ta "java/lang/AbstractStringBuilder" "coder" "B" (.int 0)) (F3 : Fld Z h0 ta "java/lang/AbstractStringBuilder" "count" "I" (.int 0)) (CS : Cmp Z h0) :
    MetFree l mN38 (head1 (Jvm.Cond.code mN38 jdk_67_method_1_code 1 none :: ws) rO32) (fun a U => a = #[(.ref ta)] ∧ Z.Warmed39 U.vm ∧ U.heap = h0) (fun _ _ _ _ _ => True) (fun _ U o U' => ∃ v L, o = .returned v ∧ Q_sbInit Z ta h0 n0 v U'.heap L ∧ FrameEnd U o U' L rO32.cells rO32.slots) := by
  refine MetFree.of_bodySF pn_sbInit hisR ?_
  intro p e s m args below meth c s₁ Bd hml0 hP hK
  obtain ⟨rfl, hZ, hh⟩ := hP
  have hx := Bd.exec
  have hby := Bd.bytes
  have dq := @hb _ _ hby
  have hml : c.maxLocals = 1 := hml0
  have hown : s.vm.findClass "java/lang/StringBuilder" = some m.cls := findClass_of_methodNamed Bd.named
  have X0 : Stand p l e rO32 s m #[(.ref ta)] below meth c s₁ [] 0 0 := Stand.of_body Bd
  have e0 : s₁.heap = h0 := by rw [← hh, Bd.state]; rfl
  have N0 := Fr.nil n0
  show Rch p e below s₁ (entryFrame m #[(.ref ta)] 1) (fun U o => ∃ v L, o = .returned v ∧ Q_sbInit Z ta h0 n0 v U.heap L ∧ FrameEnd s o U L rO32.cells rO32.slots)
  refine Rch.cast (ef_acInit m ta) ?_
  show Rch p e below s₁ (mkF m 0 #[vR ta] []) _
  refine R1 (XS.aloadN X0.here hx rfl (dq (dg dbi 0 rfl)) rfl rfl) ?_
  refine R1 (XS.bipush X0.here hx rfl (dq (dg dbi 1 rfl)) ) ?_
  show Rch p e below s₁ (mkF m 3 #[vR ta] [(.int (16 : Int32)), (.ref ta)]) _
  obtain ⟨_, _, ⟨T246, L246, k246, n246⟩, -, X246, ⟨Lc246, hQ246, l246, y246, z246⟩, st246⟩ := X0.specialBack hx (y := mN37) rfl hown (mw hZ hw 259 rfl) (mw hZ hw 260 rfl) (mw hZ hw 264 rfl) (by decide) (backOf (W := 0) (rm_asbInit l Z a0 hw [] ta h0 n0 Z0 hthis E1 F1 F2 F3 CS) hZ (wq hw 264 rfl) (wq hw 263 rfl) (by decide) (by decide)) (g := (mkF m 3 #[vR ta] [(.int (16 : Int32)), (.ref ta)])) rfl (by rw [hml]; rfl) (Steps.refl _) (a := ta) (argsL := [(.int (16 : Int32))]) (rest := []) (lenOf pd_19 rfl) rfl (w0 rfl) (dq (dg dbi 2 rfl)) (fun _ _ => ⟨rfl, e0, (by decide : 0 + 1 ≤ _), (by decide : 0 + 16 ≤ _)⟩)
  dsimp only [Pt.U, Pt.locs, Pt.cells, Pt.slots] at X246 l246 y246 z246 st246 hQ246
  subst l246 y246 z246
  obtain ⟨va246, rfl, Nq246, K246, le246_, B246⟩ := hQ246
  have N246 := Fr.app N0 Nq246
  have KK247 : Keep h0 T246.heap [ta] := (Keep.refl _ _).trans K246 (allS (Or.inl (by simp)) all0)
  refine R2 st246 ?_
  show Rch p e below T246 (mkF m 6 #[vR ta] []) _
  exact Rch.fin (Q := Q_sbInit Z ta h0 n0) X246 (v := none) (fun _ => rfl) (BodyLoose.notSynchronized Bd) (fun fs hr => X246.returnOut hx Bd.returns (dq (dg dbi 3 rfl)) hr) ⟨va246, rfl, N246, KK247, le246_, B246⟩ (by decide) (by decide)
theorem den : dxs jdk_68_method_9_code [(0, .aload_n 0, 1), (1, .getfield 15, 3), (4, .arraylength, 1), (5, .aload_n 0, 1), (6, .getfield 22, 3), (9, .ishr, 1), (10, .istore_n 2, 1), (11, .iload_n 1, 1), (12, .iload_n 2, 1), (13, .isub, 1), (14, .ifCond .le 24, 3), (38, .return_, 1)] = true := by decide +kernel
theorem pn_ens : plainFor (⟨"java/lang/AbstractStringBuilder", "ensureCapacityInternal", "(I)V"⟩ : MethodName) = true := plainFor_of_name (by first | (simp [plainName, overriddenIn]; done) | decide +kernel)
theorem ef_ens (m : MethodId) (x0 : Addr) (x1 : Int32) : entryFrame m #[(.ref x0), (.int x1)] 3 = mkF m 0 #[vR x0, vI x1, .unset] [] := by first | (simp [entryFrame, mkF, argsToLocals, Value.category]; done) | rfl
def Q_ens (Z : State) (ta va : Addr) (ct : Nat) (q : Int32) (h0 : Heap) (n0 : Nat) (v : Option Value) (h : Heap) (L : List Loc) : Prop := v = none ∧ Fr n0 L ∧ h = h0
set_option maxRecDepth 65536 in
set_option maxHeartbeats 40000000 in
theorem rm_ens (l : Launch) (Z : State) (a0 : Array Value) (hw : ∀ d ∈ tables_1, d.before a0 Z = true) (ws : List Jvm.Cond) (ta va : Addr) (ct : Nat) (q : Int32) (h0 : Heap) (n0 : Nat) (Z0 : n0 ≤ h0.size) (B : Sb Z h0 ta va ct) (hq : ¬ (0 : Int32) < q - 16) :
    MetFree l mN39 (head1 (Jvm.Cond.code mN39 jdk_68_method_9_code 3 none :: ws) rO3) (fun a U => a = #[(.ref ta), (.int q)] ∧ Z.Warmed39 U.vm ∧ U.heap = h0) (fun _ _ _ _ _ => True) (fun _ U o U' => ∃ v L, o = .returned v ∧ Q_ens Z ta va ct q h0 n0 v U'.heap L ∧ FrameEnd U o U' L rO3.cells rO3.slots) := by
  refine MetFree.of_bodySF pn_ens hisR ?_
  intro p e s m args below meth c s₁ Bd hml0 hP hK
  obtain ⟨rfl, hZ, hh⟩ := hP
  have hx := Bd.exec
  have hby := Bd.bytes
  have dq := @hb _ _ hby
  have hml : c.maxLocals = 3 := hml0
  have hown : s.vm.findClass "java/lang/AbstractStringBuilder" = some m.cls := findClass_of_methodNamed Bd.named
  have X0 : Stand p l e rO3 s m #[(.ref ta), (.int q)] below meth c s₁ [] 0 0 := Stand.of_body Bd
  have e0 : s₁.heap = h0 := by rw [← hh, Bd.state]; rfl
  have N0 := Fr.nil n0
  show Rch p e below s₁ (entryFrame m #[(.ref ta), (.int q)] 3) (fun U o => ∃ v L, o = .returned v ∧ Q_ens Z ta va ct q h0 n0 v U.heap L ∧ FrameEnd s o U L rO3.cells rO3.slots)
  refine Rch.cast (ef_ens m ta q) ?_
  show Rch p e below s₁ (mkF m 0 #[vR ta, vI q, .unset] []) _
  obtain ⟨E1, F1, F2, F3, kb, vs, V1, lv⟩ := id B
  refine R1 (XS.aloadN X0.here hx rfl (dq (dg den 0 rfl)) rfl rfl) ?_
  show Rch p e below s₁ (mkF m 1 #[vR ta, vI q, .unset] [(.ref ta)]) _
  obtain ⟨T248, X248, e248, st248⟩ := getF X0 hx hZ hown (host := "") (Or.inl (wq hw 267 rfl)) Via.refl e0 F1 (g := (mkF m 1 #[vR ta, vI q, .unset] [(.ref ta)])) rfl rfl (dq (dg den 1 rfl))
  refine R0_ st248 ?_
  show Rch p e below T248 (mkF m 4 #[vR ta, vI q, .unset] [(.ref va)]) _
  refine R0_ (alenA X248 hx hZ e248 V1.arh (g := (mkF m 4 #[vR ta, vI q, .unset] [(.ref va)])) rfl rfl (dq (dg den 2 rfl))) ?_
  show Rch p e below T248 (mkF m 5 #[vR ta, vI q, .unset] [(.int (16 : Int32))]) _
  refine R1 (XS.aloadN X248.here hx rfl (dq (dg den 3 rfl)) rfl rfl) ?_
  show Rch p e below T248 (mkF m 6 #[vR ta, vI q, .unset] [(.ref ta), (.int (16 : Int32))]) _
  obtain ⟨T249, X249, e249, st249⟩ := getF X248 hx hZ hown (host := "") (Or.inl (wq hw 269 rfl)) Via.refl e248 F2 (g := (mkF m 6 #[vR ta, vI q, .unset] [(.ref ta), (.int (16 : Int32))])) rfl rfl (dq (dg den 4 rfl))
  refine R0_ st249 ?_
  show Rch p e below T249 (mkF m 9 #[vR ta, vI q, .unset] [(.int (0 : Int32)), (.int (16 : Int32))]) _
  refine R1 (XT.ishr X249.here hx rfl (dq (dg den 5 rfl)) rfl) ?_
  show Rch p e below T249 (mkF m 10 #[vR ta, vI q, .unset] [(.int ((16 : Int32) >>> ((0 : Int32) &&& 31)))]) _
  rw [shr0]
  show Rch p e below T249 (mkF m 10 #[vR ta, vI q, .unset] [(.int (16 : Int32))]) _
  refine R1 (XS.istoreN X249.here hx rfl (dq (dg den 6 rfl)) rfl (l' := #[vR ta, vI q, vI (16 : Int32)]) rfl) ?_
  refine R1 (XS.iloadN X249.here hx rfl (dq (dg den 7 rfl)) rfl) ?_
  refine R1 (XS.iloadN X249.here hx rfl (dq (dg den 8 rfl)) rfl) ?_
  refine R1 (XS.isub X249.here hx rfl (dq (dg den 9 rfl)) rfl) ?_
  show Rch p e below T249 (mkF m 14 #[vR ta, vI q, vI (16 : Int32)] [(.int (q - (16 : Int32)))]) _
  refine R1 (XS.ifYes X249.here hx rfl (pc0 := 14) (pc' := 38) rfl (dq (dg den 10 rfl)) rfl ((if0 _ _).trans (flt hq).2.2.2) (by decide) (by decide)) ?_
  show Rch p e below T249 (mkF m 38 #[vR ta, vI q, vI (16 : Int32)] []) _
  exact Rch.fin (Q := Q_ens Z ta va ct q h0 n0) X249 (v := none) (fun _ => rfl) (BodyLoose.notSynchronized Bd) (fun fs hr => X249.returnOut hx Bd.returns (dq (dg den 11 rfl)) hr) (by rw [e249]; exact ⟨rfl, N0, rfl⟩) (by decide) (by decide)
theorem dis : dxs jdk_68_method_68_code [(0, .getstatic 18, 3), (3, .ifCond .eq 14, 3), (6, .aload_n 0, 1), (7, .getfield 22, 3), (10, .ifCond .ne 7, 3), (13, .iconst 1, 1), (14, .goto 4, 3), (18, .ireturn, 1)] = true := by decide +kernel
theorem pn_isl : plainFor (⟨"java/lang/AbstractStringBuilder", "isLatin1", "()Z"⟩ : MethodName) = true := plainFor_of_name (by first | (simp [plainName, overriddenIn]; done) | decide +kernel)
def Q_isl (Z : State) (ta va : Addr) (ct : Nat) (h0 : Heap) (n0 : Nat) (v : Option Value) (h : Heap) (L : List Loc) : Prop := v = some (.int 1) ∧ Fr n0 L ∧ h = h0
set_option maxRecDepth 65536 in
set_option maxHeartbeats 40000000 in
theorem rm_isl (l : Launch) (Z : State) (a0 : Array Value) (hw : ∀ d ∈ tables_1, d.before a0 Z = true) (ws : List Jvm.Cond) (ta va : Addr) (ct : Nat) (h0 : Heap) (n0 : Nat) (Z0 : n0 ≤ h0.size) (B : Sb Z h0 ta va ct) (CS : Cmp Z h0) :
    MetFree l mN40 (head1 (Jvm.Cond.code mN40 jdk_68_method_68_code 1 (some .boolean) :: ws) rO3) (fun a U => a = #[(.ref ta)] ∧ Z.Warmed39 U.vm ∧ U.heap = h0) (fun _ _ _ _ _ => True) (fun _ U o U' => ∃ v L, o = .returned v ∧ Q_isl Z ta va ct h0 n0 v U'.heap L ∧ FrameEnd U o U' L rO3.cells rO3.slots) := by
  refine MetFree.of_bodySF pn_isl hisR ?_
  intro p e s m args below meth c s₁ Bd hml0 hP hK
  obtain ⟨rfl, hZ, hh⟩ := hP
  have hx := Bd.exec
  have hby := Bd.bytes
  have dq := @hb _ _ hby
  have hml : c.maxLocals = 1 := hml0
  have hown : s.vm.findClass "java/lang/AbstractStringBuilder" = some m.cls := findClass_of_methodNamed Bd.named
  have X0 : Stand p l e rO3 s m #[(.ref ta)] below meth c s₁ [] 0 0 := Stand.of_body Bd
  have e0 : s₁.heap = h0 := by rw [← hh, Bd.state]; rfl
  have N0 := Fr.nil n0
  show Rch p e below s₁ (entryFrame m #[(.ref ta)] 1) (fun U o => ∃ v L, o = .returned v ∧ Q_isl Z ta va ct h0 n0 v U.heap L ∧ FrameEnd s o U L rO3.cells rO3.slots)
  refine Rch.cast (ef_acInit m ta) ?_
  show Rch p e below s₁ (mkF m 0 #[vR ta] []) _
  obtain ⟨zc, Sz, hzc⟩ := id CS
  obtain ⟨T250, X250, e250, st250⟩ := getS2 X0 hx hZ hown (host := "") (Or.inl (wq hw 266 rfl)) Via.refl e0 Sz (g := (mkF m 0 #[vR ta] [])) rfl (dq (dg dis 0 rfl))
  refine R0_ st250 ?_
  show Rch p e below T250 (mkF m 3 #[vR ta] [(.int zc)]) _
  refine R1 (XS.ifNo X250.here hx rfl (dq (dg dis 1 rfl)) rfl ((if0 _ _).trans (feq hzc).1)) ?_
  refine R1 (XS.aloadN X250.here hx rfl (dq (dg dis 2 rfl)) rfl rfl) ?_
  show Rch p e below T250 (mkF m 7 #[vR ta] [(.ref ta)]) _
  obtain ⟨T251, X251, e251, st251⟩ := getF X250 hx hZ hown (host := "") (Or.inl (wq hw 269 rfl)) Via.refl e250 B.2.2.1 (g := (mkF m 7 #[vR ta] [(.ref ta)])) rfl rfl (dq (dg dis 3 rfl))
  refine R0_ st251 ?_
  show Rch p e below T251 (mkF m 10 #[vR ta] [(.int (0 : Int32))]) _
  refine R1 (XS.ifNo X251.here hx rfl (dq (dg dis 4 rfl)) rfl (by decide : ifCond.holds .ne (0 : Int32) = false)) ?_
  refine R1 (XS.iconst X251.here hx rfl (dq (dg dis 5 rfl)) ) ?_
  refine R1 (XS.goto X251.here hx rfl (pc0 := 14) (pc' := 18) rfl (dq (dg dis 6 rfl)) (by decide) (by decide)) ?_
  show Rch p e below T251 (mkF m 18 #[vR ta] [(.int (1 : Int32))]) _
  exact Rch.fin (Q := Q_isl Z ta va ct h0 n0) X251 (v := some (.int (1 : Int32))) (fun h => by rw [Bd.returns] at h; cases h) (BodyLoose.notSynchronized Bd) (fun fs hr => retN X251 hx (t := .boolean) Bd.returns (by simp) (dq (dg dis 7 rfl)) hr) (by rw [e251]; exact ⟨rfl, N0, rfl⟩) (by decide) (by decide)
theorem dgv : dxs jdk_68_method_64_code [(0, .aload_n 0, 1), (1, .getfield 15, 3), (4, .areturn, 1)] = true := by decide +kernel
theorem pn_gval : plainFor (⟨"java/lang/AbstractStringBuilder", "getValue", "()[B"⟩ : MethodName) = true := plainFor_of_name (by first | (simp [plainName, overriddenIn]; done) | decide +kernel)
def Q_gval (Z : State) (ta va : Addr) (ct : Nat) (h0 : Heap) (n0 : Nat) (v : Option Value) (h : Heap) (L : List Loc) : Prop := v = some (.ref va) ∧ Fr n0 L ∧ h = h0
set_option maxRecDepth 65536 in
set_option maxHeartbeats 40000000 in
theorem rm_gval (l : Launch) (Z : State) (a0 : Array Value) (hw : ∀ d ∈ tables_1, d.before a0 Z = true) (ws : List Jvm.Cond) (ta va : Addr) (ct : Nat) (h0 : Heap) (n0 : Nat) (Z0 : n0 ≤ h0.size) (B : Sb Z h0 ta va ct) :
    MetFree l mN41 (head1 (Jvm.Cond.code mN41 jdk_68_method_64_code 1 (some (.array .byte)) :: ws) rO3) (fun a U => a = #[(.ref ta)] ∧ Z.Warmed39 U.vm ∧ U.heap = h0) (fun _ _ _ _ _ => True) (fun _ U o U' => ∃ v L, o = .returned v ∧ Q_gval Z ta va ct h0 n0 v U'.heap L ∧ FrameEnd U o U' L rO3.cells rO3.slots) := by
  refine MetFree.of_bodySF pn_gval hisR ?_
  intro p e s m args below meth c s₁ Bd hml0 hP hK
  obtain ⟨rfl, hZ, hh⟩ := hP
  have hx := Bd.exec
  have hby := Bd.bytes
  have dq := @hb _ _ hby
  have hml : c.maxLocals = 1 := hml0
  have hown : s.vm.findClass "java/lang/AbstractStringBuilder" = some m.cls := findClass_of_methodNamed Bd.named
  have X0 : Stand p l e rO3 s m #[(.ref ta)] below meth c s₁ [] 0 0 := Stand.of_body Bd
  have e0 : s₁.heap = h0 := by rw [← hh, Bd.state]; rfl
  have N0 := Fr.nil n0
  show Rch p e below s₁ (entryFrame m #[(.ref ta)] 1) (fun U o => ∃ v L, o = .returned v ∧ Q_gval Z ta va ct h0 n0 v U.heap L ∧ FrameEnd s o U L rO3.cells rO3.slots)
  refine Rch.cast (ef_acInit m ta) ?_
  show Rch p e below s₁ (mkF m 0 #[vR ta] []) _
  refine R1 (XS.aloadN X0.here hx rfl (dq (dg dgv 0 rfl)) rfl rfl) ?_
  show Rch p e below s₁ (mkF m 1 #[vR ta] [(.ref ta)]) _
  obtain ⟨T252, X252, e252, st252⟩ := getF X0 hx hZ hown (host := "") (Or.inl (wq hw 267 rfl)) Via.refl e0 B.2.1 (g := (mkF m 1 #[vR ta] [(.ref ta)])) rfl rfl (dq (dg dgv 1 rfl))
  refine R0_ st252 ?_
  show Rch p e below T252 (mkF m 4 #[vR ta] [(.ref va)]) _
  exact Rch.fin (Q := Q_gval Z ta va ct h0 n0) X252 (v := some (.ref va)) (fun h => by rw [Bd.returns] at h; cases h) (BodyLoose.notSynchronized Bd) (fun fs hr => retR X252 hx Bd.returns rfl rfl (dq (dg dgv 2 rfl)) hr) (by rw [e252]; exact ⟨rfl, N0, rfl⟩) (by decide) (by decide)
theorem dal : dxs jdk_68_method_6_code [(0, .aload_n 0, 1), (1, .getfield 79, 3), (4, .ireturn, 1)] = true := by decide +kernel
theorem pn_alen : plainFor (⟨"java/lang/AbstractStringBuilder", "length", "()I"⟩ : MethodName) = true := plainFor_of_name (by first | (simp [plainName, overriddenIn]; done) | decide +kernel)
def Q_alen (Z : State) (ta va : Addr) (ct : Nat) (h0 : Heap) (n0 : Nat) (v : Option Value) (h : Heap) (L : List Loc) : Prop := v = some (.int (Int32.ofNat ct)) ∧ Fr n0 L ∧ h = h0
set_option maxRecDepth 65536 in
set_option maxHeartbeats 40000000 in
theorem rm_alen (l : Launch) (Z : State) (a0 : Array Value) (hw : ∀ d ∈ tables_1, d.before a0 Z = true) (ws : List Jvm.Cond) (ta va : Addr) (ct : Nat) (h0 : Heap) (n0 : Nat) (Z0 : n0 ≤ h0.size) (B : Sb Z h0 ta va ct) :
    MetFree l mN42 (head1 (Jvm.Cond.code mN42 jdk_68_method_6_code 1 (some .int) :: ws) rO3) (fun a U => a = #[(.ref ta)] ∧ Z.Warmed39 U.vm ∧ U.heap = h0) (fun _ _ _ _ _ => True) (fun _ U o U' => ∃ v L, o = .returned v ∧ Q_alen Z ta va ct h0 n0 v U'.heap L ∧ FrameEnd U o U' L rO3.cells rO3.slots) := by
  refine MetFree.of_bodySF pn_alen hisR ?_
  intro p e s m args below meth c s₁ Bd hml0 hP hK
  obtain ⟨rfl, hZ, hh⟩ := hP
  have hx := Bd.exec
  have hby := Bd.bytes
  have dq := @hb _ _ hby
  have hml : c.maxLocals = 1 := hml0
  have hown : s.vm.findClass "java/lang/AbstractStringBuilder" = some m.cls := findClass_of_methodNamed Bd.named
  have X0 : Stand p l e rO3 s m #[(.ref ta)] below meth c s₁ [] 0 0 := Stand.of_body Bd
  have e0 : s₁.heap = h0 := by rw [← hh, Bd.state]; rfl
  have N0 := Fr.nil n0
  show Rch p e below s₁ (entryFrame m #[(.ref ta)] 1) (fun U o => ∃ v L, o = .returned v ∧ Q_alen Z ta va ct h0 n0 v U.heap L ∧ FrameEnd s o U L rO3.cells rO3.slots)
  refine Rch.cast (ef_acInit m ta) ?_
  show Rch p e below s₁ (mkF m 0 #[vR ta] []) _
  refine R1 (XS.aloadN X0.here hx rfl (dq (dg dal 0 rfl)) rfl rfl) ?_
  show Rch p e below s₁ (mkF m 1 #[vR ta] [(.ref ta)]) _
  obtain ⟨T253, X253, e253, st253⟩ := getF X0 hx hZ hown (host := "") (Or.inl (wq hw 291 rfl)) Via.refl e0 B.2.2.2.1 (g := (mkF m 1 #[vR ta] [(.ref ta)])) rfl rfl (dq (dg dal 1 rfl))
  refine R0_ st253 ?_
  show Rch p e below T253 (mkF m 4 #[vR ta] [(.int (Int32.ofNat ct))]) _
  exact Rch.fin (Q := Q_alen Z ta va ct h0 n0) X253 (v := some (.int (Int32.ofNat ct))) (fun h => by rw [Bd.returns] at h; cases h) (BodyLoose.notSynchronized Bd) (fun fs hr => retI X253 hx Bd.returns (dq (dg dal 2 rfl)) hr) (by rw [e253]; exact ⟨rfl, N0, rfl⟩) (by decide) (by decide)
theorem dbl : dxs jdk_67_method_93_code [(0, .aload_n 0, 1), (1, .invokespecial 343, 3), (4, .ireturn, 1)] = true := by decide +kernel
theorem pn_blen : plainFor (⟨"java/lang/StringBuilder", "length", "()I"⟩ : MethodName) = true := plainFor_of_name (by first | (simp [plainName, overriddenIn]; done) | decide +kernel)
def Q_blen (Z : State) (ta va : Addr) (ct : Nat) (h0 : Heap) (n0 : Nat) (v : Option Value) (h : Heap) (L : List Loc) : Prop := v = some (.int (Int32.ofNat ct)) ∧ Fr n0 L ∧ h = h0
set_option maxRecDepth 65536 in
set_option maxHeartbeats 40000000 in
theorem rm_blen (l : Launch) (Z : State) (a0 : Array Value) (hw : ∀ d ∈ tables_1, d.before a0 Z = true) (ws : List Jvm.Cond) (ta va : Addr) (ct : Nat) (h0 : Heap) (n0 : Nat) (Z0 : n0 ≤ h0.size) (B : Sb Z h0 ta va ct) :
    MetFree l mN43 (head1 (Jvm.Cond.code mN43 jdk_67_method_93_code 1 (some .int) :: ws) rO0) (fun a U => a = #[(.ref ta)] ∧ Z.Warmed39 U.vm ∧ U.heap = h0) (fun _ _ _ _ _ => True) (fun _ U o U' => ∃ v L, o = .returned v ∧ Q_blen Z ta va ct h0 n0 v U'.heap L ∧ FrameEnd U o U' L rO0.cells rO0.slots) := by
  refine MetFree.of_bodySF pn_blen hisR ?_
  intro p e s m args below meth c s₁ Bd hml0 hP hK
  obtain ⟨rfl, hZ, hh⟩ := hP
  have hx := Bd.exec
  have hby := Bd.bytes
  have dq := @hb _ _ hby
  have hml : c.maxLocals = 1 := hml0
  have hown : s.vm.findClass "java/lang/StringBuilder" = some m.cls := findClass_of_methodNamed Bd.named
  have X0 : Stand p l e rO0 s m #[(.ref ta)] below meth c s₁ [] 0 0 := Stand.of_body Bd
  have e0 : s₁.heap = h0 := by rw [← hh, Bd.state]; rfl
  have N0 := Fr.nil n0
  show Rch p e below s₁ (entryFrame m #[(.ref ta)] 1) (fun U o => ∃ v L, o = .returned v ∧ Q_blen Z ta va ct h0 n0 v U.heap L ∧ FrameEnd s o U L rO0.cells rO0.slots)
  refine Rch.cast (ef_acInit m ta) ?_
  show Rch p e below s₁ (mkF m 0 #[vR ta] []) _
  refine R1 (XS.aloadN X0.here hx rfl (dq (dg dbl 0 rfl)) rfl rfl) ?_
  show Rch p e below s₁ (mkF m 1 #[vR ta] [(.ref ta)]) _
  obtain ⟨_, _, ⟨T254, L254, k254, n254⟩, -, X254, ⟨Lc254, hQ254, l254, y254, z254⟩, st254⟩ := superBack X0 hx hZ (y := mN42) hown (wq hw 353 rfl) (same_of (wq hw 349 rfl) (wq hw 327 rfl) rfl (by decide)) (wq hw 349 rfl) (wq hw 278 rfl) (by decide) (backOf (W := 0) (rm_alen l Z a0 hw [] ta va ct h0 n0 Z0 B) hZ (wq hw 354 rfl) (wq hw 263 rfl) (by decide) (by decide)) e0 (Ins.self B.1) (g := (mkF m 1 #[vR ta] [(.ref ta)])) rfl (by rw [hml]; rfl) (wq hw 354 rfl) (argsL := []) (rest := []) (lenOf pd_20 rfl) rfl (w0 rfl) (dq (dg dbl 1 rfl)) (fun _ _ => ⟨rfl, e0, (by decide : 0 + 0 ≤ _), (by decide : 0 + 0 ≤ _)⟩)
  dsimp only [Pt.U, Pt.locs, Pt.cells, Pt.slots] at X254 l254 y254 z254 st254 hQ254
  subst l254 y254 z254
  obtain ⟨rfl, Nq254, e254⟩ := hQ254
  have N254 := Fr.app N0 Nq254
  refine R2 st254 ?_
  show Rch p e below T254 (mkF m 4 #[vR ta] [(.int (Int32.ofNat ct))]) _
  exact Rch.fin (Q := Q_blen Z ta va ct h0 n0) X254 (v := some (.int (Int32.ofNat ct))) (fun h => by rw [Bd.returns] at h; cases h) (BodyLoose.notSynchronized Bd) (fun fs hr => retI X254 hx Bd.returns (dq (dg dbl 2 rfl)) hr) (by rw [e254]; exact ⟨rfl, N254, rfl⟩) (by decide) (by decide)
theorem dif : dxs jdk_68_method_71_code [(0, .getstatic 18, 3), (3, .ifCond .eq 18, 3), (6, .aload_n 0, 1), (7, .getfield 22, 3), (10, .aload_n 1, 1), (11, .invokevirtual 40, 3), (14, .if_icmp .eq 7, 3), (21, .return_, 1)] = true := by decide +kernel
theorem pn_infl : plainFor (⟨"java/lang/AbstractStringBuilder", "inflateIfNeededFor", "(Ljava/lang/String;)V"⟩ : MethodName) = true := plainFor_of_name (by first | (simp [plainName, overriddenIn]; done) | decide +kernel)
def Q_infl (Z : State) (ta va x : Addr) (ct n : Nat) (h0 : Heap) (n0 : Nat) (v : Option Value) (h : Heap) (L : List Loc) : Prop := v = none ∧ Fr n0 L ∧ h = h0
set_option maxRecDepth 65536 in
set_option maxHeartbeats 40000000 in
theorem rm_infl (l : Launch) (Z : State) (a0 : Array Value) (hw : ∀ d ∈ tables_1, d.before a0 Z = true) (ws : List Jvm.Cond) (ta va x : Addr) (ct n : Nat) (h0 : Heap) (n0 : Nat) (Z0 : n0 ≤ h0.size) (B : Sb Z h0 ta va ct) (S : Sl Z h0 x n) (CS : Cmp Z h0) :
    MetFree l mN44 (head1 (Jvm.Cond.code mN44 jdk_68_method_71_code 2 none :: ws) rO30) (fun a U => a = #[(.ref ta), (.ref x)] ∧ Z.Warmed39 U.vm ∧ U.heap = h0) (fun _ _ _ _ _ => True) (fun _ U o U' => ∃ v L, o = .returned v ∧ Q_infl Z ta va x ct n h0 n0 v U'.heap L ∧ FrameEnd U o U' L rO30.cells rO30.slots) := by
  refine MetFree.of_bodySF pn_infl hisR ?_
  intro p e s m args below meth c s₁ Bd hml0 hP hK
  obtain ⟨rfl, hZ, hh⟩ := hP
  have hx := Bd.exec
  have hby := Bd.bytes
  have dq := @hb _ _ hby
  have hml : c.maxLocals = 2 := hml0
  have hown : s.vm.findClass "java/lang/AbstractStringBuilder" = some m.cls := findClass_of_methodNamed Bd.named
  have X0 : Stand p l e rO30 s m #[(.ref ta), (.ref x)] below meth c s₁ [] 0 0 := Stand.of_body Bd
  have e0 : s₁.heap = h0 := by rw [← hh, Bd.state]; rfl
  have N0 := Fr.nil n0
  show Rch p e below s₁ (entryFrame m #[(.ref ta), (.ref x)] 2) (fun U o => ∃ v L, o = .returned v ∧ Q_infl Z ta va x ct n h0 n0 v U.heap L ∧ FrameEnd s o U L rO30.cells rO30.slots)
  refine Rch.cast (ef_addG m ta x) ?_
  show Rch p e below s₁ (mkF m 0 #[vR ta, vR x] []) _
  obtain ⟨zc, Sz, hzc⟩ := id CS
  obtain ⟨T255, X255, e255, st255⟩ := getS2 X0 hx hZ hown (host := "") (Or.inl (wq hw 266 rfl)) Via.refl e0 Sz (g := (mkF m 0 #[vR ta, vR x] [])) rfl (dq (dg dif 0 rfl))
  refine R0_ st255 ?_
  show Rch p e below T255 (mkF m 3 #[vR ta, vR x] [(.int zc)]) _
  refine R1 (XS.ifNo X255.here hx rfl (dq (dg dif 1 rfl)) rfl ((if0 _ _).trans (feq hzc).1)) ?_
  refine R1 (XS.aloadN X255.here hx rfl (dq (dg dif 2 rfl)) rfl rfl) ?_
  show Rch p e below T255 (mkF m 7 #[vR ta, vR x] [(.ref ta)]) _
  obtain ⟨T256, X256, e256, st256⟩ := getF X255 hx hZ hown (host := "") (Or.inl (wq hw 269 rfl)) Via.refl e255 B.2.2.1 (g := (mkF m 7 #[vR ta, vR x] [(.ref ta)])) rfl rfl (dq (dg dif 3 rfl))
  refine R0_ st256 ?_
  show Rch p e below T256 (mkF m 10 #[vR ta, vR x] [(.int (0 : Int32))]) _
  refine R1 (XS.aloadN X256.here hx rfl (dq (dg dif 4 rfl)) rfl rfl) ?_
  show Rch p e below T256 (mkF m 11 #[vR ta, vR x] [(.ref x), (.int (0 : Int32))]) _
  obtain ⟨cq257, kq257, q257a, q257b, q257c⟩ := isOf hZ e256 S.exa
  obtain ⟨_, _, ⟨T257, L257, k257, n257⟩, -, X257, ⟨Lc257, hQ257, l257, y257, z257⟩, st257⟩ := X256.virtualBack hx (y := mN35) (z := mN35) hown (mw hZ hw 308 rfl) (mw hZ hw 287 rfl) (notFace_of_selects (args := #[]) (mw hZ hw 289 rfl)) (mw hZ hw 289 rfl) (mw hZ hw 288 rfl) (by decide) (backOf (W := 1) (rm_cod l Z a0 hw [] x n h0 n0 Z0 S CS) hZ (wq hw 290 rfl) (wq hw 6 rfl) (by decide) (by decide)) q257a q257c (g := (mkF m 11 #[vR ta, vR x] [(.ref x), (.int (0 : Int32))])) rfl (by rw [hml]; rfl) (Steps.refl _) (argsL := []) (rest := [(.int (0 : Int32))]) (lenOf pd_18 rfl) rfl (w0 rfl) (dq (dg dif 5 rfl)) (fun _ _ => ⟨rfl, e256, (by decide : 0 + 0 ≤ _), (by decide : 0 + 0 ≤ _)⟩)
  dsimp only [Pt.U, Pt.locs, Pt.cells, Pt.slots] at X257 l257 y257 z257 st257 hQ257
  subst l257 y257 z257
  obtain ⟨rfl, Nq257, e257⟩ := hQ257
  have N257 := Fr.app N0 Nq257
  refine R2 st257 ?_
  show Rch p e below T257 (mkF m 14 #[vR ta, vR x] [(.int (0 : Int32)), (.int (0 : Int32))]) _
  refine R1 (XS.icmpYes X257.here hx rfl (pc0 := 14) (pc' := 21) rfl (dq (dg dif 6 rfl)) rfl (by decide : if_icmp.holds .eq (0 : Int32) (0 : Int32) = true) (by decide) (by decide)) ?_
  show Rch p e below T257 (mkF m 21 #[vR ta, vR x] []) _
  exact Rch.fin (Q := Q_infl Z ta va x ct n h0 n0) X257 (v := none) (fun _ => rfl) (BodyLoose.notSynchronized Bd) (fun fs hr => X257.returnOut hx Bd.returns (dq (dg dif 7 rfl)) hr) (by rw [e257]; exact ⟨rfl, N257, rfl⟩) (by decide) (by decide)
theorem dgb : dxs jdk_42_method_147_code [(0, .aload_n 0, 1), (1, .invokevirtual 335, 3), (4, .iload_n 3, 1), (5, .if_icmp .ne 23, 3), (8, .aload_n 0, 1), (9, .getfield 9, 3), (12, .iconst 0, 1), (13, .aload_n 1, 1), (14, .iload_n 2, 1), (15, .iload_n 3, 1), (16, .ishl, 1), (17, .aload_n 0, 1), (18, .getfield 9, 3), (21, .arraylength, 1), (22, .invokestatic 212, 3), (25, .goto 18, 3), (43, .return_, 1)] = true := by decide +kernel
theorem pn_getB : plainFor (⟨"java/lang/String", "getBytes", "([BIB)V"⟩ : MethodName) = true := plainFor_of_name (by first | (simp [plainName, overriddenIn]; done) | decide +kernel)
theorem ef_getB (m : MethodId) (x0 : Addr) (x1 : Addr) (x2 : Int32) (x3 : Int32) : entryFrame m #[(.ref x0), (.ref x1), (.int x2), (.int x3)] 4 = mkF m 0 #[vR x0, vR x1, vI x2, vI x3] [] := by first | (simp [entryFrame, mkF, argsToLocals, Value.category]; done) | rfl
def Q_getB (Z : State) (x va : Addr) (n dp : Nat) (h0 : Heap) (n0 : Nat) (v : Option Value) (h : Heap) (L : List Loc) : Prop := v = none ∧ Fr n0 L ∧ Keep h0 h [va] ∧ ∃ k vs, Arv Z h va k .byte 16 vs (.int 0) ∧ vs.length = 16
set_option maxRecDepth 65536 in
set_option maxHeartbeats 40000000 in
theorem rm_getB (l : Launch) (Z : State) (a0 : Array Value) (hw : ∀ d ∈ tables_1, d.before a0 Z = true) (ws : List Jvm.Cond) (x va : Addr) (n dp : Nat) (h0 : Heap) (n0 : Nat) (Z0 : n0 ≤ h0.size) (S : Sl Z h0 x n) (V : ∃ k vs, Arv Z h0 va k .byte 16 vs (.int 0) ∧ vs.length = 16) (hva : n0 ≤ va) (hfit : dp + n ≤ 16) (CS : Cmp Z h0) :
    MetFree l mN45 (head1 (Jvm.Cond.code mN45 jdk_42_method_147_code 4 none :: ws) rO33) (fun a U => a = #[(.ref x), (.ref va), (.int (Int32.ofNat dp)), (.int (0 : Int32))] ∧ Z.Warmed39 U.vm ∧ U.heap = h0) (fun _ _ _ _ _ => True) (fun _ U o U' => ∃ v L, o = .returned v ∧ Q_getB Z x va n dp h0 n0 v U'.heap L ∧ FrameEnd U o U' L rO33.cells rO33.slots) := by
  refine MetFree.of_bodySF pn_getB hisR ?_
  intro p e s m args below meth c s₁ Bd hml0 hP hK
  obtain ⟨rfl, hZ, hh⟩ := hP
  have hx := Bd.exec
  have hby := Bd.bytes
  have dq := @hb _ _ hby
  have hml : c.maxLocals = 4 := hml0
  have hown : s.vm.findClass "java/lang/String" = some m.cls := findClass_of_methodNamed Bd.named
  have X0 : Stand p l e rO33 s m #[(.ref x), (.ref va), (.int (Int32.ofNat dp)), (.int (0 : Int32))] below meth c s₁ [] 0 0 := Stand.of_body Bd
  have e0 : s₁.heap = h0 := by rw [← hh, Bd.state]; rfl
  have N0 := Fr.nil n0
  show Rch p e below s₁ (entryFrame m #[(.ref x), (.ref va), (.int (Int32.ofNat dp)), (.int (0 : Int32))] 4) (fun U o => ∃ v L, o = .returned v ∧ Q_getB Z x va n dp h0 n0 v U.heap L ∧ FrameEnd s o U L rO33.cells rO33.slots)
  refine Rch.cast (ef_getB m x va (Int32.ofNat dp) (0 : Int32)) ?_
  show Rch p e below s₁ (mkF m 0 #[vR x, vR va, vI (Int32.ofNat dp), vI (0 : Int32)] []) _
  obtain ⟨t, kb, us, E1, F1, F2, V1⟩ := id S
  obtain ⟨kv, vs, V2, lv⟩ := id V
  refine R1 (XS.aloadN X0.here hx rfl (dq (dg dgb 0 rfl)) rfl rfl) ?_
  show Rch p e below s₁ (mkF m 1 #[vR x, vR va, vI (Int32.ofNat dp), vI (0 : Int32)] [(.ref x)]) _
  obtain ⟨cq258, kq258, q258a, q258b, q258c⟩ := isOf hZ e0 E1
  obtain ⟨_, _, ⟨T258, L258, k258, n258⟩, -, X258, ⟨Lc258, hQ258, l258, y258, z258⟩, st258⟩ := X0.virtualBack hx (y := mN35) (z := mN35) hown (mw hZ hw 286 rfl) (mw hZ hw 287 rfl) (notFace_of_selects (args := #[]) (mw hZ hw 289 rfl)) (mw hZ hw 289 rfl) (mw hZ hw 288 rfl) (by decide) (backOf (W := 0) (rm_cod l Z a0 hw [] x n h0 n0 Z0 S CS) hZ (wq hw 290 rfl) (wq hw 6 rfl) (by decide) (by decide)) q258a q258c (g := (mkF m 1 #[vR x, vR va, vI (Int32.ofNat dp), vI (0 : Int32)] [(.ref x)])) rfl (by rw [hml]; rfl) (Steps.refl _) (argsL := []) (rest := []) (lenOf pd_18 rfl) rfl (w0 rfl) (dq (dg dgb 1 rfl)) (fun _ _ => ⟨rfl, e0, (by decide : 0 + 0 ≤ _), (by decide : 0 + 0 ≤ _)⟩)
  dsimp only [Pt.U, Pt.locs, Pt.cells, Pt.slots] at X258 l258 y258 z258 st258 hQ258
  subst l258 y258 z258
  obtain ⟨rfl, Nq258, e258⟩ := hQ258
  have N258 := Fr.app N0 Nq258
  refine R2 st258 ?_
  show Rch p e below T258 (mkF m 4 #[vR x, vR va, vI (Int32.ofNat dp), vI (0 : Int32)] [(.int (0 : Int32))]) _
  refine R1 (XS.iloadN X258.here hx rfl (dq (dg dgb 2 rfl)) rfl) ?_
  refine R1 (XS.icmpNo X258.here hx rfl (dq (dg dgb 3 rfl)) rfl (by decide : if_icmp.holds .ne (0 : Int32) (0 : Int32) = false)) ?_
  refine R1 (XS.aloadN X258.here hx rfl (dq (dg dgb 4 rfl)) rfl rfl) ?_
  show Rch p e below T258 (mkF m 9 #[vR x, vR va, vI (Int32.ofNat dp), vI (0 : Int32)] [(.ref x)]) _
  obtain ⟨T259, X259, e259, st259⟩ := getF X258 hx hZ hown (host := "") (Or.inl (wq hw 26 rfl)) Via.refl e258 F1 (g := (mkF m 9 #[vR x, vR va, vI (Int32.ofNat dp), vI (0 : Int32)] [(.ref x)])) rfl rfl (dq (dg dgb 5 rfl))
  refine R0_ st259 ?_
  show Rch p e below T259 (mkF m 12 #[vR x, vR va, vI (Int32.ofNat dp), vI (0 : Int32)] [(.ref t)]) _
  refine R1 (XS.iconst X259.here hx rfl (dq (dg dgb 6 rfl)) ) ?_
  refine R1 (XS.aloadN X259.here hx rfl (dq (dg dgb 7 rfl)) rfl rfl) ?_
  refine R1 (XS.iloadN X259.here hx rfl (dq (dg dgb 8 rfl)) rfl) ?_
  refine R1 (XS.iloadN X259.here hx rfl (dq (dg dgb 9 rfl)) rfl) ?_
  show Rch p e below T259 (mkF m 16 #[vR x, vR va, vI (Int32.ofNat dp), vI (0 : Int32)] [(.int (0 : Int32)), (.int (Int32.ofNat dp)), (.ref va), (.int (0 : Int32)), (.ref t)]) _
  refine R1 (XT.ishl X259.here hx rfl (dq (dg dgb 10 rfl)) rfl) ?_
  show Rch p e below T259 (mkF m 17 #[vR x, vR va, vI (Int32.ofNat dp), vI (0 : Int32)] [(.int ((Int32.ofNat dp) <<< ((0 : Int32) &&& 31))), (.ref va), (.int (0 : Int32)), (.ref t)]) _
  rw [shl0]
  show Rch p e below T259 (mkF m 17 #[vR x, vR va, vI (Int32.ofNat dp), vI (0 : Int32)] [(.int (Int32.ofNat dp)), (.ref va), (.int (0 : Int32)), (.ref t)]) _
  refine R1 (XS.aloadN X259.here hx rfl (dq (dg dgb 11 rfl)) rfl rfl) ?_
  show Rch p e below T259 (mkF m 18 #[vR x, vR va, vI (Int32.ofNat dp), vI (0 : Int32)] [(.ref x), (.int (Int32.ofNat dp)), (.ref va), (.int (0 : Int32)), (.ref t)]) _
  obtain ⟨T260, X260, e260, st260⟩ := getF X259 hx hZ hown (host := "") (Or.inl (wq hw 26 rfl)) Via.refl e259 F1 (g := (mkF m 18 #[vR x, vR va, vI (Int32.ofNat dp), vI (0 : Int32)] [(.ref x), (.int (Int32.ofNat dp)), (.ref va), (.int (0 : Int32)), (.ref t)])) rfl rfl (dq (dg dgb 12 rfl))
  refine R0_ st260 ?_
  show Rch p e below T260 (mkF m 21 #[vR x, vR va, vI (Int32.ofNat dp), vI (0 : Int32)] [(.ref t), (.int (Int32.ofNat dp)), (.ref va), (.int (0 : Int32)), (.ref t)]) _
  refine R0_ (alenA X260 hx hZ e260 V1.arh (g := (mkF m 21 #[vR x, vR va, vI (Int32.ofNat dp), vI (0 : Int32)] [(.ref t), (.int (Int32.ofNat dp)), (.ref va), (.int (0 : Int32)), (.ref t)])) rfl rfl (dq (dg dgb 13 rfl))) ?_
  show Rch p e below T260 (mkF m 22 #[vR x, vR va, vI (Int32.ofNat dp), vI (0 : Int32)] [(.int (Int32.ofNat n)), (.int (Int32.ofNat dp)), (.ref va), (.int (0 : Int32)), (.ref t)]) _
  have c1 : (Int32.ofNat dp).toNatClampNeg = dp := ofN_cl (by omega)
  have c2 : (Int32.ofNat n).toNatClampNeg = n := ofN_cl (by omega)
  obtain ⟨T261, h261, L261, X261, e261, N261, K261, V261, st261⟩ := cpA X260 hx hZ hown (wq hw 314 rfl) (wq hw 190 rfl) (wq hw 188 rfl) (wq hw 189 rfl) e260 V1 V2 (Or.inl ⟨rfl, rfl⟩) (by decide) (ofN_nn (by omega)) (ofN_nn (by omega)) (by show 0 + _ ≤ _; omega) (by rw [c1, c2]; exact hfit) (us := _) (sp := (0 : Int32)) (dp := (Int32.ofNat dp)) (nn := (Int32.ofNat n)) rfl (by rw [c1, c2, lv]; exact hfit) N258 hva (g := (mkF m 22 #[vR x, vR va, vI (Int32.ofNat dp), vI (0 : Int32)] [(.int (Int32.ofNat n)), (.int (Int32.ofNat dp)), (.ref va), (.int (0 : Int32)), (.ref t)])) rfl (by rw [hml]; rfl) rfl (dq (dg dgb 14 rfl)) (by decide) (W := 0) (w0 rfl) (by decide)
  have KK262 : Keep h0 h261 [va] := (Keep.refl _ _).trans K261 (allS (Or.inl (by simp)) all0)
  refine R0_ st261 ?_
  show Rch p e below T261 (mkF m 25 #[vR x, vR va, vI (Int32.ofNat dp), vI (0 : Int32)] []) _
  refine R1 (XS.goto X261.here hx rfl (pc0 := 25) (pc' := 43) rfl (dq (dg dgb 15 rfl)) (by decide) (by decide)) ?_
  show Rch p e below T261 (mkF m 43 #[vR x, vR va, vI (Int32.ofNat dp), vI (0 : Int32)] []) _
  exact Rch.fin (Q := Q_getB Z x va n dp h0 n0) X261 (v := none) (fun _ => rfl) (BodyLoose.notSynchronized Bd) (fun fs hr => X261.returnOut hx Bd.returns (dq (dg dgb 16 rfl)) hr) (by rw [e261]; exact ⟨rfl, N261, KK262, _, _, V261, by simp [c1, c2, lv]; omega⟩) (by decide) (by decide)
theorem dps : dxs jdk_68_method_73_code [(0, .aload_n 0, 1), (1, .aload_n 2, 1), (2, .invokevirtual 397, 3), (5, .aload_n 2, 1), (6, .aload_n 0, 1), (7, .getfield 15, 3), (10, .iload_n 1, 1), (11, .aload_n 0, 1), (12, .getfield 22, 3), (15, .invokevirtual 399, 3), (18, .return_, 1)] = true := by decide +kernel
theorem pn_psa : plainFor (⟨"java/lang/AbstractStringBuilder", "putStringAt", "(ILjava/lang/String;)V"⟩ : MethodName) = true := plainFor_of_name (by first | (simp [plainName, overriddenIn]; done) | decide +kernel)
theorem ef_psa (m : MethodId) (x0 : Addr) (x1 : Int32) (x2 : Addr) : entryFrame m #[(.ref x0), (.int x1), (.ref x2)] 3 = mkF m 0 #[vR x0, vI x1, vR x2] [] := by first | (simp [entryFrame, mkF, argsToLocals, Value.category]; done) | rfl
def Q_psa (Z : State) (ta va x : Addr) (ct n : Nat) (h0 : Heap) (n0 : Nat) (v : Option Value) (h : Heap) (L : List Loc) : Prop := v = none ∧ Fr n0 L ∧ Keep h0 h [va] ∧ Sb Z h ta va ct
set_option maxRecDepth 65536 in
set_option maxHeartbeats 40000000 in
theorem rm_psa (l : Launch) (Z : State) (a0 : Array Value) (hw : ∀ d ∈ tables_1, d.before a0 Z = true) (ws : List Jvm.Cond) (ta va x : Addr) (ct n : Nat) (h0 : Heap) (n0 : Nat) (Z0 : n0 ≤ h0.size) (B : Sb Z h0 ta va ct) (S : Sl Z h0 x n) (hva : n0 ≤ va) (hfit : ct + n ≤ 16) (CS : Cmp Z h0) :
    MetFree l mN46 (head1 (Jvm.Cond.code mN46 jdk_68_method_73_code 3 none :: ws) rO34) (fun a U => a = #[(.ref ta), (.int (Int32.ofNat ct)), (.ref x)] ∧ Z.Warmed39 U.vm ∧ U.heap = h0) (fun _ _ _ _ _ => True) (fun _ U o U' => ∃ v L, o = .returned v ∧ Q_psa Z ta va x ct n h0 n0 v U'.heap L ∧ FrameEnd U o U' L rO34.cells rO34.slots) := by
  refine MetFree.of_bodySF pn_psa hisR ?_
  intro p e s m args below meth c s₁ Bd hml0 hP hK
  obtain ⟨rfl, hZ, hh⟩ := hP
  have hx := Bd.exec
  have hby := Bd.bytes
  have dq := @hb _ _ hby
  have hml : c.maxLocals = 3 := hml0
  have hown : s.vm.findClass "java/lang/AbstractStringBuilder" = some m.cls := findClass_of_methodNamed Bd.named
  have X0 : Stand p l e rO34 s m #[(.ref ta), (.int (Int32.ofNat ct)), (.ref x)] below meth c s₁ [] 0 0 := Stand.of_body Bd
  have e0 : s₁.heap = h0 := by rw [← hh, Bd.state]; rfl
  have N0 := Fr.nil n0
  show Rch p e below s₁ (entryFrame m #[(.ref ta), (.int (Int32.ofNat ct)), (.ref x)] 3) (fun U o => ∃ v L, o = .returned v ∧ Q_psa Z ta va x ct n h0 n0 v U.heap L ∧ FrameEnd s o U L rO34.cells rO34.slots)
  refine Rch.cast (ef_psa m ta (Int32.ofNat ct) x) ?_
  show Rch p e below s₁ (mkF m 0 #[vR ta, vI (Int32.ofNat ct), vR x] []) _
  refine R1 (XS.aloadN X0.here hx rfl (dq (dg dps 0 rfl)) rfl rfl) ?_
  refine R1 (XS.aloadN X0.here hx rfl (dq (dg dps 1 rfl)) rfl rfl) ?_
  show Rch p e below s₁ (mkF m 2 #[vR ta, vI (Int32.ofNat ct), vR x] [(.ref x), (.ref ta)]) _
  obtain ⟨ce263, q263, q263'⟩ := ((Ins.self B.1)).cell
  obtain ⟨_, _, ⟨T263, L263, k263, n263⟩, -, X263, ⟨Lc263, hQ263, l263, y263, z263⟩, st263⟩ := X0.privateBack hx (y := mN44) hown (mw hZ hw 303 rfl) (mw hZ hw 304 rfl) (selSelf (mw hZ hw 306 rfl) (mw hZ hw 304 rfl) (Cond.privateMethod_at (mvP hZ (wq hw 305 rfl) (args := #[]))) (by decide)) (Cond.privateMethod_at (mvP hZ (wq hw 305 rfl) (args := #[]))) (mw hZ hw 307 rfl) (by decide) (backOf (W := 0) (rm_infl l Z a0 hw [] ta va x ct n h0 n0 Z0 B S CS) hZ (wq hw 307 rfl) (wq hw 263 rfl) (by decide) (by decide)) (g := (mkF m 2 #[vR ta, vI (Int32.ofNat ct), vR x] [(.ref x), (.ref ta)])) rfl (by rw [hml]; rfl) (Steps.refl _) (a := ta) (by rw [e0]; exact q263) q263' (argsL := [(.ref x)]) (rest := []) (lenOf pd_21 rfl) rfl (w0 rfl) (dq (dg dps 2 rfl)) (fun _ _ => ⟨rfl, e0, (by decide : 0 + 0 ≤ _), (by decide : 0 + 0 ≤ _)⟩)
  dsimp only [Pt.U, Pt.locs, Pt.cells, Pt.slots] at X263 l263 y263 z263 st263 hQ263
  subst l263 y263 z263
  obtain ⟨rfl, Nq263, e263⟩ := hQ263
  have N263 := Fr.app N0 Nq263
  refine R2 st263 ?_
  show Rch p e below T263 (mkF m 5 #[vR ta, vI (Int32.ofNat ct), vR x] []) _
  refine R1 (XS.aloadN X263.here hx rfl (dq (dg dps 3 rfl)) rfl rfl) ?_
  refine R1 (XS.aloadN X263.here hx rfl (dq (dg dps 4 rfl)) rfl rfl) ?_
  show Rch p e below T263 (mkF m 7 #[vR ta, vI (Int32.ofNat ct), vR x] [(.ref ta), (.ref x)]) _
  obtain ⟨T264, X264, e264, st264⟩ := getF X263 hx hZ hown (host := "") (Or.inl (wq hw 267 rfl)) Via.refl e263 B.2.1 (g := (mkF m 7 #[vR ta, vI (Int32.ofNat ct), vR x] [(.ref ta), (.ref x)])) rfl rfl (dq (dg dps 5 rfl))
  refine R0_ st264 ?_
  show Rch p e below T264 (mkF m 10 #[vR ta, vI (Int32.ofNat ct), vR x] [(.ref va), (.ref x)]) _
  refine R1 (XS.iloadN X264.here hx rfl (dq (dg dps 6 rfl)) rfl) ?_
  refine R1 (XS.aloadN X264.here hx rfl (dq (dg dps 7 rfl)) rfl rfl) ?_
  show Rch p e below T264 (mkF m 12 #[vR ta, vI (Int32.ofNat ct), vR x] [(.ref ta), (.int (Int32.ofNat ct)), (.ref va), (.ref x)]) _
  obtain ⟨T265, X265, e265, st265⟩ := getF X264 hx hZ hown (host := "") (Or.inl (wq hw 269 rfl)) Via.refl e264 B.2.2.1 (g := (mkF m 12 #[vR ta, vI (Int32.ofNat ct), vR x] [(.ref ta), (.int (Int32.ofNat ct)), (.ref va), (.ref x)])) rfl rfl (dq (dg dps 8 rfl))
  refine R0_ st265 ?_
  show Rch p e below T265 (mkF m 15 #[vR ta, vI (Int32.ofNat ct), vR x] [(.int (0 : Int32)), (.int (Int32.ofNat ct)), (.ref va), (.ref x)]) _
  obtain ⟨cq266, kq266, q266a, q266b, q266c⟩ := isOf hZ e265 S.exa
  obtain ⟨_, _, ⟨T266, L266, k266, n266⟩, -, X266, ⟨Lc266, hQ266, l266, y266, z266⟩, st266⟩ := X265.virtualBack hx (y := mN45) (z := mN45) hown (mw hZ hw 309 rfl) (mw hZ hw 310 rfl) (notFace_of_selects (args := #[]) (mw hZ hw 312 rfl)) (mw hZ hw 312 rfl) (mw hZ hw 311 rfl) (by decide) (backOf (W := 0) (rm_getB l Z a0 hw [] x va n ct h0 n0 Z0 S B.2.2.2.2 hva hfit CS) hZ (wq hw 313 rfl) (wq hw 6 rfl) (by decide) (by decide)) q266a q266c (g := (mkF m 15 #[vR ta, vI (Int32.ofNat ct), vR x] [(.int (0 : Int32)), (.int (Int32.ofNat ct)), (.ref va), (.ref x)])) rfl (by rw [hml]; rfl) (Steps.refl _) (argsL := [(.ref va), (.int (Int32.ofNat ct)), (.int (0 : Int32))]) (rest := []) (lenOf pd_22 rfl) rfl (w0 rfl) (dq (dg dps 9 rfl)) (fun _ _ => ⟨rfl, e265, (by decide : 0 + 0 ≤ _), (by decide : 0 + 0 ≤ _)⟩)
  dsimp only [Pt.U, Pt.locs, Pt.cells, Pt.slots] at X266 l266 y266 z266 st266 hQ266
  subst l266 y266 z266
  obtain ⟨rfl, Nq266, K266, V266⟩ := hQ266
  have N266 := Fr.app N263 Nq266
  have KK267 : Keep h0 T266.heap [va] := (Keep.refl _ _).trans K266 (allS (Or.inl (by simp)) all0)
  refine R2 st266 ?_
  show Rch p e below T266 (mkF m 18 #[vR ta, vI (Int32.ofNat ct), vR x] []) _
  exact Rch.fin (Q := Q_psa Z ta va x ct n h0 n0) X266 (v := none) (fun _ => rfl) (BodyLoose.notSynchronized Bd) (fun fs hr => X266.returnOut hx Bd.returns (dq (dg dps 10 rfl)) hr) ⟨rfl, N266, KK267, sb_kpA hw B K266 V266⟩ (by decide) (by decide)
theorem dap : dxs jdk_68_method_22_code [(0, .aload_n 1, 1), (1, .ifnonnull 8, 3), (9, .aload_n 1, 1), (10, .invokevirtual 32, 3), (13, .istore_n 2, 1), (14, .aload_n 0, 1), (15, .aload_n 0, 1), (16, .getfield 79, 3), (19, .iload_n 2, 1), (20, .iadd, 1), (21, .invokevirtual 100, 3), (24, .aload_n 0, 1), (25, .aload_n 0, 1), (26, .getfield 79, 3), (29, .aload_n 1, 1), (30, .invokevirtual 208, 3), (33, .aload_n 0, 1), (34, .dup, 1), (35, .getfield 79, 3), (38, .iload_n 2, 1), (39, .iadd, 1), (40, .putfield 79, 3), (43, .aload_n 0, 1), (44, .areturn, 1)] = true := by decide +kernel
theorem pn_asbApp : plainFor (⟨"java/lang/AbstractStringBuilder", "append", "(Ljava/lang/String;)Ljava/lang/AbstractStringBuilder;"⟩ : MethodName) = true := plainFor_of_name (by first | (simp [plainName, overriddenIn]; done) | decide +kernel)
theorem ef_asbApp (m : MethodId) (x0 : Addr) (x1 : Addr) : entryFrame m #[(.ref x0), (.ref x1)] 3 = mkF m 0 #[vR x0, vR x1, .unset] [] := by first | (simp [entryFrame, mkF, argsToLocals, Value.category]; done) | rfl
def Q_asbApp (Z : State) (ta va x : Addr) (ct n : Nat) (h0 : Heap) (n0 : Nat) (v : Option Value) (h : Heap) (L : List Loc) : Prop := v = some (.ref ta) ∧ Fr n0 L ∧ Keep h0 h [ta, va] ∧ Sb Z h ta va (ct + n)
set_option maxRecDepth 65536 in
set_option maxHeartbeats 40000000 in
theorem rm_asbApp (l : Launch) (Z : State) (a0 : Array Value) (hw : ∀ d ∈ tables_1, d.before a0 Z = true) (ws : List Jvm.Cond) (ta va x : Addr) (ct n : Nat) (h0 : Heap) (n0 : Nat) (Z0 : n0 ≤ h0.size) (B : Sb Z h0 ta va ct) (S : Sl Z h0 x n) (hthis : n0 ≤ ta) (hva : n0 ≤ va) (hfit : ct + n ≤ 16) (CS : Cmp Z h0) :
    MetFree l mN47 (head1 (Jvm.Cond.code mN47 jdk_68_method_22_code 3 (some (.object "java/lang/AbstractStringBuilder")) :: ws) rO35) (fun a U => a = #[(.ref ta), (.ref x)] ∧ Z.Warmed39 U.vm ∧ U.heap = h0) (fun _ _ _ _ _ => True) (fun _ U o U' => ∃ v L, o = .returned v ∧ Q_asbApp Z ta va x ct n h0 n0 v U'.heap L ∧ FrameEnd U o U' L rO35.cells rO35.slots) := by
  refine MetFree.of_bodySF pn_asbApp hisR ?_
  intro p e s m args below meth c s₁ Bd hml0 hP hK
  obtain ⟨rfl, hZ, hh⟩ := hP
  have hx := Bd.exec
  have hby := Bd.bytes
  have dq := @hb _ _ hby
  have hml : c.maxLocals = 3 := hml0
  have hown : s.vm.findClass "java/lang/AbstractStringBuilder" = some m.cls := findClass_of_methodNamed Bd.named
  have X0 : Stand p l e rO35 s m #[(.ref ta), (.ref x)] below meth c s₁ [] 0 0 := Stand.of_body Bd
  have e0 : s₁.heap = h0 := by rw [← hh, Bd.state]; rfl
  have N0 := Fr.nil n0
  show Rch p e below s₁ (entryFrame m #[(.ref ta), (.ref x)] 3) (fun U o => ∃ v L, o = .returned v ∧ Q_asbApp Z ta va x ct n h0 n0 v U.heap L ∧ FrameEnd s o U L rO35.cells rO35.slots)
  refine Rch.cast (ef_asbApp m ta x) ?_
  show Rch p e below s₁ (mkF m 0 #[vR ta, vR x, .unset] []) _
  refine R1 (XS.aloadN X0.here hx rfl (dq (dg dap 0 rfl)) rfl rfl) ?_
  refine R1 (XT.ifnonnullYes X0.here hx rfl (pc0 := 1) (pc' := 9) rfl (dq (dg dap 1 rfl)) rfl (by decide) (by decide)) ?_
  refine R1 (XS.aloadN X0.here hx rfl (dq (dg dap 2 rfl)) rfl rfl) ?_
  show Rch p e below s₁ (mkF m 10 #[vR ta, vR x, .unset] [(.ref x)]) _
  obtain ⟨cq268, kq268, q268a, q268b, q268c⟩ := isOf hZ e0 S.exa
  obtain ⟨_, _, ⟨T268, L268, k268, n268⟩, -, X268, ⟨Lc268, hQ268, l268, y268, z268⟩, st268⟩ := X0.virtualBack hx (y := mN36) (z := mN36) hown (mw hZ hw 281 rfl) (mw hZ hw 282 rfl) (notFace_of_selects (args := #[]) (mw hZ hw 284 rfl)) (mw hZ hw 284 rfl) (mw hZ hw 283 rfl) (by decide) (backOf (W := 0) (rm_slen l Z a0 hw [] x n h0 n0 Z0 S CS) hZ (wq hw 285 rfl) (wq hw 6 rfl) (by decide) (by decide)) q268a q268c (g := (mkF m 10 #[vR ta, vR x, .unset] [(.ref x)])) rfl (by rw [hml]; rfl) (Steps.refl _) (argsL := []) (rest := []) (lenOf pd_20 rfl) rfl (w0 rfl) (dq (dg dap 3 rfl)) (fun _ _ => ⟨rfl, e0, (by decide : 0 + 0 ≤ _), (by decide : 0 + 0 ≤ _)⟩)
  dsimp only [Pt.U, Pt.locs, Pt.cells, Pt.slots] at X268 l268 y268 z268 st268 hQ268
  subst l268 y268 z268
  obtain ⟨rfl, Nq268, e268⟩ := hQ268
  have N268 := Fr.app N0 Nq268
  refine R2 st268 ?_
  show Rch p e below T268 (mkF m 13 #[vR ta, vR x, .unset] [(.int (Int32.ofNat n))]) _
  refine R1 (XS.istoreN X268.here hx rfl (dq (dg dap 4 rfl)) rfl (l' := #[vR ta, vR x, vI (Int32.ofNat n)]) rfl) ?_
  refine R1 (XS.aloadN X268.here hx rfl (dq (dg dap 5 rfl)) rfl rfl) ?_
  refine R1 (XS.aloadN X268.here hx rfl (dq (dg dap 6 rfl)) rfl rfl) ?_
  show Rch p e below T268 (mkF m 16 #[vR ta, vR x, vI (Int32.ofNat n)] [(.ref ta), (.ref ta)]) _
  obtain ⟨T269, X269, e269, st269⟩ := getF X268 hx hZ hown (host := "") (Or.inl (wq hw 291 rfl)) Via.refl e268 B.2.2.2.1 (g := (mkF m 16 #[vR ta, vR x, vI (Int32.ofNat n)] [(.ref ta), (.ref ta)])) rfl rfl (dq (dg dap 7 rfl))
  refine R0_ st269 ?_
  show Rch p e below T269 (mkF m 19 #[vR ta, vR x, vI (Int32.ofNat n)] [(.int (Int32.ofNat ct)), (.ref ta)]) _
  refine R1 (XS.iloadN X269.here hx rfl (dq (dg dap 8 rfl)) rfl) ?_
  refine R1 (XS.iadd X269.here hx rfl (dq (dg dap 9 rfl)) rfl) ?_
  show Rch p e below T269 (mkF m 21 #[vR ta, vR x, vI (Int32.ofNat n)] [(.int ((Int32.ofNat ct) + (Int32.ofNat n))), (.ref ta)]) _
  rw [ofN_add]
  show Rch p e below T269 (mkF m 21 #[vR ta, vR x, vI (Int32.ofNat n)] [(.int (Int32.ofNat (ct + n))), (.ref ta)]) _
  obtain ⟨ce270, q270, q270'⟩ := ((Ins.self B.1)).cell
  obtain ⟨_, _, ⟨T270, L270, k270, n270⟩, -, X270, ⟨Lc270, hQ270, l270, y270, z270⟩, st270⟩ := X269.privateBack hx (y := mN39) hown (mw hZ hw 293 rfl) (mw hZ hw 294 rfl) (selSelf (mw hZ hw 296 rfl) (mw hZ hw 294 rfl) (Cond.privateMethod_at (mvP hZ (wq hw 295 rfl) (args := #[]))) (by decide)) (Cond.privateMethod_at (mvP hZ (wq hw 295 rfl) (args := #[]))) (mw hZ hw 297 rfl) (by decide) (backOf (W := 0) (rm_ens l Z a0 hw [] ta va ct (Int32.ofNat (ct + n)) h0 n0 Z0 B (ofN_sub16 hfit)) hZ (wq hw 297 rfl) (wq hw 263 rfl) (by decide) (by decide)) (g := (mkF m 21 #[vR ta, vR x, vI (Int32.ofNat n)] [(.int (Int32.ofNat (ct + n))), (.ref ta)])) rfl (by rw [hml]; rfl) (Steps.refl _) (a := ta) (by rw [e269]; exact q270) q270' (argsL := [(.int (Int32.ofNat (ct + n)))]) (rest := []) (lenOf pd_19 rfl) rfl (w0 rfl) (dq (dg dap 10 rfl)) (fun _ _ => ⟨rfl, e269, (by decide : 0 + 0 ≤ _), (by decide : 0 + 0 ≤ _)⟩)
  dsimp only [Pt.U, Pt.locs, Pt.cells, Pt.slots] at X270 l270 y270 z270 st270 hQ270
  subst l270 y270 z270
  obtain ⟨rfl, Nq270, e270⟩ := hQ270
  have N270 := Fr.app N268 Nq270
  refine R2 st270 ?_
  show Rch p e below T270 (mkF m 24 #[vR ta, vR x, vI (Int32.ofNat n)] []) _
  refine R1 (XS.aloadN X270.here hx rfl (dq (dg dap 11 rfl)) rfl rfl) ?_
  refine R1 (XS.aloadN X270.here hx rfl (dq (dg dap 12 rfl)) rfl rfl) ?_
  show Rch p e below T270 (mkF m 26 #[vR ta, vR x, vI (Int32.ofNat n)] [(.ref ta), (.ref ta)]) _
  obtain ⟨T271, X271, e271, st271⟩ := getF X270 hx hZ hown (host := "") (Or.inl (wq hw 291 rfl)) Via.refl e270 B.2.2.2.1 (g := (mkF m 26 #[vR ta, vR x, vI (Int32.ofNat n)] [(.ref ta), (.ref ta)])) rfl rfl (dq (dg dap 13 rfl))
  refine R0_ st271 ?_
  show Rch p e below T271 (mkF m 29 #[vR ta, vR x, vI (Int32.ofNat n)] [(.int (Int32.ofNat ct)), (.ref ta)]) _
  refine R1 (XS.aloadN X271.here hx rfl (dq (dg dap 14 rfl)) rfl rfl) ?_
  show Rch p e below T271 (mkF m 30 #[vR ta, vR x, vI (Int32.ofNat n)] [(.ref x), (.int (Int32.ofNat ct)), (.ref ta)]) _
  obtain ⟨ce272, q272, q272'⟩ := ((Ins.self B.1)).cell
  obtain ⟨_, _, ⟨T272, L272, k272, n272⟩, -, X272, ⟨Lc272, hQ272, l272, y272, z272⟩, st272⟩ := X271.privateBack hx (y := mN46) hown (mw hZ hw 298 rfl) (mw hZ hw 299 rfl) (selSelf (mw hZ hw 301 rfl) (mw hZ hw 299 rfl) (Cond.privateMethod_at (mvP hZ (wq hw 300 rfl) (args := #[]))) (by decide)) (Cond.privateMethod_at (mvP hZ (wq hw 300 rfl) (args := #[]))) (mw hZ hw 302 rfl) (by decide) (backOf (W := 0) (rm_psa l Z a0 hw [] ta va x ct n h0 n0 Z0 B S hva hfit CS) hZ (wq hw 302 rfl) (wq hw 263 rfl) (by decide) (by decide)) (g := (mkF m 30 #[vR ta, vR x, vI (Int32.ofNat n)] [(.ref x), (.int (Int32.ofNat ct)), (.ref ta)])) rfl (by rw [hml]; rfl) (Steps.refl _) (a := ta) (by rw [e271]; exact q272) q272' (argsL := [(.int (Int32.ofNat ct)), (.ref x)]) (rest := []) (lenOf pd_23 rfl) rfl (w0 rfl) (dq (dg dap 15 rfl)) (fun _ _ => ⟨rfl, e271, (by decide : 0 + 0 ≤ _), (by decide : 0 + 0 ≤ _)⟩)
  dsimp only [Pt.U, Pt.locs, Pt.cells, Pt.slots] at X272 l272 y272 z272 st272 hQ272
  subst l272 y272 z272
  obtain ⟨rfl, Nq272, K272, B272⟩ := hQ272
  have N272 := Fr.app N270 Nq272
  have KK273 : Keep h0 T272.heap [ta, va] := (Keep.refl _ _).trans K272 (allS (Or.inl (by simp)) all0)
  refine R2 st272 ?_
  show Rch p e below T272 (mkF m 33 #[vR ta, vR x, vI (Int32.ofNat n)] []) _
  refine R1 (XS.aloadN X272.here hx rfl (dq (dg dap 16 rfl)) rfl rfl) ?_
  refine R1 (XS.dup X272.here hx rfl (dq (dg dap 17 rfl)) rfl rfl) ?_
  show Rch p e below T272 (mkF m 35 #[vR ta, vR x, vI (Int32.ofNat n)] [(.ref ta), (.ref ta)]) _
  obtain ⟨T274, X274, e274, st274⟩ := getF X272 hx hZ hown (host := "") (Or.inl (wq hw 291 rfl)) Via.refl rfl B272.2.2.2.1 (g := (mkF m 35 #[vR ta, vR x, vI (Int32.ofNat n)] [(.ref ta), (.ref ta)])) rfl rfl (dq (dg dap 18 rfl))
  refine R0_ st274 ?_
  show Rch p e below T274 (mkF m 38 #[vR ta, vR x, vI (Int32.ofNat n)] [(.int (Int32.ofNat ct)), (.ref ta)]) _
  refine R1 (XS.iloadN X274.here hx rfl (dq (dg dap 19 rfl)) rfl) ?_
  refine R1 (XS.iadd X274.here hx rfl (dq (dg dap 20 rfl)) rfl) ?_
  show Rch p e below T274 (mkF m 40 #[vR ta, vR x, vI (Int32.ofNat n)] [(.int ((Int32.ofNat ct) + (Int32.ofNat n))), (.ref ta)]) _
  rw [ofN_add]
  show Rch p e below T274 (mkF m 40 #[vR ta, vR x, vI (Int32.ofNat n)] [(.int (Int32.ofNat (ct + n))), (.ref ta)]) _
  obtain ⟨T275, h275, X275, e275, W275, st275⟩ := putF X274 hx hZ hown (host := "") (Or.inl (wq hw 291 rfl)) Via.refl e274 B272.2.2.2.1 B272.1 (Or.inl (wq hw 292 rfl)) (wq hw 254 rfl) (ty := .int) (by decide) rfl rfl (g := (mkF m 40 #[vR ta, vR x, vI (Int32.ofNat n)] [(.int (Int32.ofNat (ct + n))), (.ref ta)])) rfl rfl (dq (dg dap 21 rfl))
  have KK276 : Keep h0 h275 [ta, va] := KK273.wr W275 (Or.inl (by simp))
  have N275 := Fr.snoc X275 N272 hthis
  refine R0_ st275 ?_
  show Rch p e below T275 (mkF m 43 #[vR ta, vR x, vI (Int32.ofNat n)] []) _
  refine R1 (XS.aloadN X275.here hx rfl (dq (dg dap 22 rfl)) rfl rfl) ?_
  show Rch p e below T275 (mkF m 44 #[vR ta, vR x, vI (Int32.ofNat n)] [(.ref ta)]) _
  exact Rch.fin (Q := Q_asbApp Z ta va x ct n h0 n0) X275 (v := some (.ref ta)) (fun h => by rw [Bd.returns] at h; cases h) (BodyLoose.notSynchronized Bd) (fun fs hr => retR X275 hx Bd.returns rfl rfl (dq (dg dap 23 rfl)) hr) (by rw [e275]; exact ⟨rfl, N275, KK276, sb_wrN hw B272 W275⟩) (by decide) (by decide)
theorem dbp : dxs jdk_67_method_7_code [(0, .aload_n 0, 1), (1, .aload_n 1, 1), (2, .invokespecial 29, 3), (5, .pop, 1), (6, .aload_n 0, 1), (7, .areturn, 1)] = true := by decide +kernel
theorem pn_sbApp : plainFor (⟨"java/lang/StringBuilder", "append", "(Ljava/lang/String;)Ljava/lang/StringBuilder;"⟩ : MethodName) = true := plainFor_of_name (by first | (simp [plainName, overriddenIn]; done) | decide +kernel)
def Q_sbApp (Z : State) (ta va x : Addr) (ct n : Nat) (h0 : Heap) (n0 : Nat) (v : Option Value) (h : Heap) (L : List Loc) : Prop := v = some (.ref ta) ∧ Fr n0 L ∧ Keep h0 h [ta, va] ∧ Sb Z h ta va (ct + n)
set_option maxRecDepth 65536 in
set_option maxHeartbeats 40000000 in
theorem rm_sbApp (l : Launch) (Z : State) (a0 : Array Value) (hw : ∀ d ∈ tables_1, d.before a0 Z = true) (ws : List Jvm.Cond) (ta va x : Addr) (ct n : Nat) (h0 : Heap) (n0 : Nat) (Z0 : n0 ≤ h0.size) (B : Sb Z h0 ta va ct) (S : Sl Z h0 x n) (hthis : n0 ≤ ta) (hva : n0 ≤ va) (hfit : ct + n ≤ 16) (CS : Cmp Z h0) :
    MetFree l mN48 (head1 (Jvm.Cond.code mN48 jdk_67_method_7_code 2 (some (.object "java/lang/StringBuilder")) :: ws) rO36) (fun a U => a = #[(.ref ta), (.ref x)] ∧ Z.Warmed39 U.vm ∧ U.heap = h0) (fun _ _ _ _ _ => True) (fun _ U o U' => ∃ v L, o = .returned v ∧ Q_sbApp Z ta va x ct n h0 n0 v U'.heap L ∧ FrameEnd U o U' L rO36.cells rO36.slots) := by
  refine MetFree.of_bodySF pn_sbApp hisR ?_
  intro p e s m args below meth c s₁ Bd hml0 hP hK
  obtain ⟨rfl, hZ, hh⟩ := hP
  have hx := Bd.exec
  have hby := Bd.bytes
  have dq := @hb _ _ hby
  have hml : c.maxLocals = 2 := hml0
  have hown : s.vm.findClass "java/lang/StringBuilder" = some m.cls := findClass_of_methodNamed Bd.named
  have X0 : Stand p l e rO36 s m #[(.ref ta), (.ref x)] below meth c s₁ [] 0 0 := Stand.of_body Bd
  have e0 : s₁.heap = h0 := by rw [← hh, Bd.state]; rfl
  have N0 := Fr.nil n0
  show Rch p e below s₁ (entryFrame m #[(.ref ta), (.ref x)] 2) (fun U o => ∃ v L, o = .returned v ∧ Q_sbApp Z ta va x ct n h0 n0 v U.heap L ∧ FrameEnd s o U L rO36.cells rO36.slots)
  refine Rch.cast (ef_addG m ta x) ?_
  show Rch p e below s₁ (mkF m 0 #[vR ta, vR x] []) _
  refine R1 (XS.aloadN X0.here hx rfl (dq (dg dbp 0 rfl)) rfl rfl) ?_
  refine R1 (XS.aloadN X0.here hx rfl (dq (dg dbp 1 rfl)) rfl rfl) ?_
  show Rch p e below s₁ (mkF m 2 #[vR ta, vR x] [(.ref x), (.ref ta)]) _
  obtain ⟨_, _, ⟨T277, L277, k277, n277⟩, -, X277, ⟨Lc277, hQ277, l277, y277, z277⟩, st277⟩ := superBack X0 hx hZ (y := mN47) hown (wq hw 276 rfl) (same_of (wq hw 277 rfl) (wq hw 327 rfl) rfl (by decide)) (wq hw 277 rfl) (wq hw 278 rfl) (by decide) (backOf (W := 0) (rm_asbApp l Z a0 hw [] ta va x ct n h0 n0 Z0 B S hthis hva hfit CS) hZ (wq hw 280 rfl) (wq hw 263 rfl) (by decide) (by decide)) e0 (Ins.self B.1) (g := (mkF m 2 #[vR ta, vR x] [(.ref x), (.ref ta)])) rfl (by rw [hml]; rfl) (wq hw 280 rfl) (argsL := [(.ref x)]) (rest := []) (lenOf pd_24 rfl) rfl (w0 rfl) (dq (dg dbp 2 rfl)) (fun _ _ => ⟨rfl, e0, (by decide : 0 + 0 ≤ _), (by decide : 0 + 0 ≤ _)⟩)
  dsimp only [Pt.U, Pt.locs, Pt.cells, Pt.slots] at X277 l277 y277 z277 st277 hQ277
  subst l277 y277 z277
  obtain ⟨rfl, Nq277, K277, B277⟩ := hQ277
  have N277 := Fr.app N0 Nq277
  have KK278 : Keep h0 T277.heap [ta, va] := (Keep.refl _ _).trans K277 (allS (Or.inl (by simp)) (allS (Or.inl (by simp)) all0))
  refine R2 st277 ?_
  show Rch p e below T277 (mkF m 5 #[vR ta, vR x] [(.ref ta)]) _
  refine R1 (XT.pop X277.here hx rfl (dq (dg dbp 3 rfl)) rfl rfl) ?_
  refine R1 (XS.aloadN X277.here hx rfl (dq (dg dbp 4 rfl)) rfl rfl) ?_
  show Rch p e below T277 (mkF m 7 #[vR ta, vR x] [(.ref ta)]) _
  exact Rch.fin (Q := Q_sbApp Z ta va x ct n h0 n0) X277 (v := some (.ref ta)) (fun h => by rw [Bd.returns] at h; cases h) (BodyLoose.notSynchronized Bd) (fun fs hr => retR X277 hx Bd.returns rfl rfl (dq (dg dbp 5 rfl)) hr) ⟨rfl, N277, KK278, B277⟩ (by decide) (by decide)
theorem dcc : dxs jdk_68_method_31_code [(0, .aload_n 0, 1), (1, .aload_n 0, 1), (2, .getfield 79, 3), (5, .iconst 1, 1), (6, .iadd, 1), (7, .invokevirtual 100, 3), (10, .aload_n 0, 1), (11, .invokevirtual 83, 3), (14, .ifCond .eq 31, 3), (17, .iload_n 1, 1), (18, .invokestatic 191, 3), (21, .ifCond .eq 24, 3), (24, .aload_n 0, 1), (25, .getfield 15, 3), (28, .aload_n 0, 1), (29, .dup, 1), (30, .getfield 79, 3), (33, .dup_x1, 1), (34, .iconst 1, 1), (35, .iadd, 1), (36, .putfield 79, 3), (39, .iload_n 1, 1), (40, .i2b, 1), (41, .bastore, 1), (42, .goto 33, 3), (75, .aload_n 0, 1), (76, .areturn, 1)] = true := by decide +kernel
theorem pn_asbAppC : plainFor (⟨"java/lang/AbstractStringBuilder", "append", "(C)Ljava/lang/AbstractStringBuilder;"⟩ : MethodName) = true := plainFor_of_name (by first | (simp [plainName, overriddenIn]; done) | decide +kernel)
def Q_asbAppC (Z : State) (ta va : Addr) (ct : Nat) (ch : Int32) (h0 : Heap) (n0 : Nat) (v : Option Value) (h : Heap) (L : List Loc) : Prop := v = some (.ref ta) ∧ Fr n0 L ∧ Keep h0 h [ta, va] ∧ Sb Z h ta va (ct + 1)
set_option maxRecDepth 65536 in
set_option maxHeartbeats 40000000 in
theorem rm_asbAppC (l : Launch) (Z : State) (a0 : Array Value) (hw : ∀ d ∈ tables_1, d.before a0 Z = true) (ws : List Jvm.Cond) (ta va : Addr) (ct : Nat) (ch : Int32) (h0 : Heap) (n0 : Nat) (Z0 : n0 ≤ h0.size) (B : Sb Z h0 ta va ct) (hthis : n0 ≤ ta) (hva : n0 ≤ va) (hfit : ct + 1 ≤ 16) (hch : ¬ (255 : Int32) < ch) (CS : Cmp Z h0) :
    MetFree l mN49 (head1 (Jvm.Cond.code mN49 jdk_68_method_31_code 2 (some (.object "java/lang/AbstractStringBuilder")) :: ws) rO9) (fun a U => a = #[(.ref ta), (.int ch)] ∧ Z.Warmed39 U.vm ∧ U.heap = h0) (fun _ _ _ _ _ => True) (fun _ U o U' => ∃ v L, o = .returned v ∧ Q_asbAppC Z ta va ct ch h0 n0 v U'.heap L ∧ FrameEnd U o U' L rO9.cells rO9.slots) := by
  refine MetFree.of_bodySF pn_asbAppC hisR ?_
  intro p e s m args below meth c s₁ Bd hml0 hP hK
  obtain ⟨rfl, hZ, hh⟩ := hP
  have hx := Bd.exec
  have hby := Bd.bytes
  have dq := @hb _ _ hby
  have hml : c.maxLocals = 2 := hml0
  have hown : s.vm.findClass "java/lang/AbstractStringBuilder" = some m.cls := findClass_of_methodNamed Bd.named
  have X0 : Stand p l e rO9 s m #[(.ref ta), (.int ch)] below meth c s₁ [] 0 0 := Stand.of_body Bd
  have e0 : s₁.heap = h0 := by rw [← hh, Bd.state]; rfl
  have N0 := Fr.nil n0
  show Rch p e below s₁ (entryFrame m #[(.ref ta), (.int ch)] 2) (fun U o => ∃ v L, o = .returned v ∧ Q_asbAppC Z ta va ct ch h0 n0 v U.heap L ∧ FrameEnd s o U L rO9.cells rO9.slots)
  refine Rch.cast (ef_alElem m ta ch) ?_
  show Rch p e below s₁ (mkF m 0 #[vR ta, vI ch] []) _
  refine R1 (XS.aloadN X0.here hx rfl (dq (dg dcc 0 rfl)) rfl rfl) ?_
  refine R1 (XS.aloadN X0.here hx rfl (dq (dg dcc 1 rfl)) rfl rfl) ?_
  show Rch p e below s₁ (mkF m 2 #[vR ta, vI ch] [(.ref ta), (.ref ta)]) _
  obtain ⟨T279, X279, e279, st279⟩ := getF X0 hx hZ hown (host := "") (Or.inl (wq hw 291 rfl)) Via.refl e0 B.2.2.2.1 (g := (mkF m 2 #[vR ta, vI ch] [(.ref ta), (.ref ta)])) rfl rfl (dq (dg dcc 2 rfl))
  refine R0_ st279 ?_
  show Rch p e below T279 (mkF m 5 #[vR ta, vI ch] [(.int (Int32.ofNat ct)), (.ref ta)]) _
  refine R1 (XS.iconst X279.here hx rfl (dq (dg dcc 3 rfl)) ) ?_
  refine R1 (XS.iadd X279.here hx rfl (dq (dg dcc 4 rfl)) rfl) ?_
  show Rch p e below T279 (mkF m 7 #[vR ta, vI ch] [(.int ((Int32.ofNat ct) + (1 : Int32))), (.ref ta)]) _
  rw [add1n]
  show Rch p e below T279 (mkF m 7 #[vR ta, vI ch] [(.int (Int32.ofNat (ct + 1))), (.ref ta)]) _
  obtain ⟨ce280, q280, q280'⟩ := ((Ins.self B.1)).cell
  obtain ⟨_, _, ⟨T280, L280, k280, n280⟩, -, X280, ⟨Lc280, hQ280, l280, y280, z280⟩, st280⟩ := X279.privateBack hx (y := mN39) hown (mw hZ hw 293 rfl) (mw hZ hw 294 rfl) (selSelf (mw hZ hw 296 rfl) (mw hZ hw 294 rfl) (Cond.privateMethod_at (mvP hZ (wq hw 295 rfl) (args := #[]))) (by decide)) (Cond.privateMethod_at (mvP hZ (wq hw 295 rfl) (args := #[]))) (mw hZ hw 297 rfl) (by decide) (backOf (W := 0) (rm_ens l Z a0 hw [] ta va ct (Int32.ofNat (ct + 1)) h0 n0 Z0 B (ofN_sub16 hfit)) hZ (wq hw 297 rfl) (wq hw 263 rfl) (by decide) (by decide)) (g := (mkF m 7 #[vR ta, vI ch] [(.int (Int32.ofNat (ct + 1))), (.ref ta)])) rfl (by rw [hml]; rfl) (Steps.refl _) (a := ta) (by rw [e279]; exact q280) q280' (argsL := [(.int (Int32.ofNat (ct + 1)))]) (rest := []) (lenOf pd_19 rfl) rfl (w0 rfl) (dq (dg dcc 5 rfl)) (fun _ _ => ⟨rfl, e279, (by decide : 0 + 0 ≤ _), (by decide : 0 + 0 ≤ _)⟩)
  dsimp only [Pt.U, Pt.locs, Pt.cells, Pt.slots] at X280 l280 y280 z280 st280 hQ280
  subst l280 y280 z280
  obtain ⟨rfl, Nq280, e280⟩ := hQ280
  have N280 := Fr.app N0 Nq280
  refine R2 st280 ?_
  show Rch p e below T280 (mkF m 10 #[vR ta, vI ch] []) _
  refine R1 (XS.aloadN X280.here hx rfl (dq (dg dcc 6 rfl)) rfl rfl) ?_
  show Rch p e below T280 (mkF m 11 #[vR ta, vI ch] [(.ref ta)]) _
  obtain ⟨cq281, kq281, q281a, q281b, q281c⟩ := isOf hZ e280 B.1
  obtain ⟨_, _, ⟨T281, L281, k281, n281⟩, -, X281, ⟨Lc281, hQ281, l281, y281, z281⟩, st281⟩ := X280.virtualBack hx (y := mN40) (z := mN40) hown (mw hZ hw 324 rfl) (mw hZ hw 325 rfl) (notFace_of_selects (args := #[]) (mw hZ hw 327 rfl)) (mw hZ hw 327 rfl) (mw hZ hw 326 rfl) (by decide) (backOf (W := 0) (rm_isl l Z a0 hw [] ta va ct h0 n0 Z0 B CS) hZ (wq hw 328 rfl) (wq hw 263 rfl) (by decide) (by decide)) q281a q281c (g := (mkF m 11 #[vR ta, vI ch] [(.ref ta)])) rfl (by rw [hml]; rfl) (Steps.refl _) (argsL := []) (rest := []) (lenOf pd_11 rfl) rfl (w0 rfl) (dq (dg dcc 7 rfl)) (fun _ _ => ⟨rfl, e280, (by decide : 0 + 0 ≤ _), (by decide : 0 + 0 ≤ _)⟩)
  dsimp only [Pt.U, Pt.locs, Pt.cells, Pt.slots] at X281 l281 y281 z281 st281 hQ281
  subst l281 y281 z281
  obtain ⟨rfl, Nq281, e281⟩ := hQ281
  have N281 := Fr.app N280 Nq281
  refine R2 st281 ?_
  show Rch p e below T281 (mkF m 14 #[vR ta, vI ch] [(.int (1 : Int32))]) _
  refine R1 (XS.ifNo X281.here hx rfl (dq (dg dcc 8 rfl)) rfl (by decide : ifCond.holds .eq (1 : Int32) = false)) ?_
  refine R1 (XS.iloadN X281.here hx rfl (dq (dg dcc 9 rfl)) rfl) ?_
  show Rch p e below T281 (mkF m 18 #[vR ta, vI ch] [(.int ch)]) _
  obtain ⟨_, _, ⟨T282, L282, k282, n282⟩, -, X282, ⟨Lc282, hQ282, l282, y282, z282⟩, st282⟩ := Jvm.LawKit.callS X281 hx (y := mN31) hown (mw hZ hw 329 rfl) (mw hZ hw 10 rfl) (mw hZ hw 11 rfl) (mw hZ hw 12 rfl) (by decide) (backOf (W := 0) (rm_canEnc l Z a0 hw [] ch h0 n0 Z0 hch) hZ (wq hw 12 rfl) (wq hw 11 rfl) (by decide) (by decide)) (g := (mkF m 18 #[vR ta, vI ch] [(.int ch)])) rfl (by rw [hml]; rfl) (argsL := [(.int ch)]) (rest := []) (lenOf pd_15 rfl) rfl (w0 rfl) (dq (dg dcc 10 rfl)) (fun _ _ => ⟨rfl, e281, (by decide : 0 + 0 ≤ _), (by decide : 0 + 0 ≤ _)⟩)
  dsimp only [Pt.U, Pt.locs, Pt.cells, Pt.slots] at X282 l282 y282 z282 st282 hQ282
  subst l282 y282 z282
  obtain ⟨rfl, Nq282, e282⟩ := hQ282
  have N282 := Fr.app N281 Nq282
  refine R0_ st282 ?_
  show Rch p e below T282 (mkF m 21 #[vR ta, vI ch] [(.int (1 : Int32))]) _
  refine R1 (XS.ifNo X282.here hx rfl (dq (dg dcc 11 rfl)) rfl (by decide : ifCond.holds .eq (1 : Int32) = false)) ?_
  refine R1 (XS.aloadN X282.here hx rfl (dq (dg dcc 12 rfl)) rfl rfl) ?_
  show Rch p e below T282 (mkF m 25 #[vR ta, vI ch] [(.ref ta)]) _
  obtain ⟨T283, X283, e283, st283⟩ := getF X282 hx hZ hown (host := "") (Or.inl (wq hw 267 rfl)) Via.refl e282 B.2.1 (g := (mkF m 25 #[vR ta, vI ch] [(.ref ta)])) rfl rfl (dq (dg dcc 13 rfl))
  refine R0_ st283 ?_
  show Rch p e below T283 (mkF m 28 #[vR ta, vI ch] [(.ref va)]) _
  refine R1 (XS.aloadN X283.here hx rfl (dq (dg dcc 14 rfl)) rfl rfl) ?_
  refine R1 (XS.dup X283.here hx rfl (dq (dg dcc 15 rfl)) rfl rfl) ?_
  show Rch p e below T283 (mkF m 30 #[vR ta, vI ch] [(.ref ta), (.ref ta), (.ref va)]) _
  obtain ⟨T284, X284, e284, st284⟩ := getF X283 hx hZ hown (host := "") (Or.inl (wq hw 291 rfl)) Via.refl e283 B.2.2.2.1 (g := (mkF m 30 #[vR ta, vI ch] [(.ref ta), (.ref ta), (.ref va)])) rfl rfl (dq (dg dcc 16 rfl))
  refine R0_ st284 ?_
  show Rch p e below T284 (mkF m 33 #[vR ta, vI ch] [(.int (Int32.ofNat ct)), (.ref ta), (.ref va)]) _
  refine R1 (XT.dupX1 X284.here hx rfl (dq (dg dcc 17 rfl)) rfl rfl rfl) ?_
  refine R1 (XS.iconst X284.here hx rfl (dq (dg dcc 18 rfl)) ) ?_
  refine R1 (XS.iadd X284.here hx rfl (dq (dg dcc 19 rfl)) rfl) ?_
  show Rch p e below T284 (mkF m 36 #[vR ta, vI ch] [(.int ((Int32.ofNat ct) + (1 : Int32))), (.ref ta), (.int (Int32.ofNat ct)), (.ref va)]) _
  rw [add1n]
  show Rch p e below T284 (mkF m 36 #[vR ta, vI ch] [(.int (Int32.ofNat (ct + 1))), (.ref ta), (.int (Int32.ofNat ct)), (.ref va)]) _
  obtain ⟨T285, h285, X285, e285, W285, st285⟩ := putF X284 hx hZ hown (host := "") (Or.inl (wq hw 291 rfl)) Via.refl e284 B.2.2.2.1 B.1 (Or.inl (wq hw 292 rfl)) (wq hw 254 rfl) (ty := .int) (by decide) rfl rfl (g := (mkF m 36 #[vR ta, vI ch] [(.int (Int32.ofNat (ct + 1))), (.ref ta), (.int (Int32.ofNat ct)), (.ref va)])) rfl rfl (dq (dg dcc 20 rfl))
  have KK286 : Keep h0 h285 [ta, va] := (Keep.refl _ _).wr W285 (Or.inl (by simp))
  have N285 := Fr.snoc X285 N282 hthis
  refine R0_ st285 ?_
  show Rch p e below T285 (mkF m 39 #[vR ta, vI ch] [(.int (Int32.ofNat ct)), (.ref va)]) _
  have B1 := sb_wrN hw B W285
  refine R1 (XS.iloadN X285.here hx rfl (dq (dg dcc 21 rfl)) rfl) ?_
  refine R1 (XT.i2b X285.here hx rfl (dq (dg dcc 22 rfl)) rfl) ?_
  show Rch p e below T285 (mkF m 41 #[vR ta, vI ch] [(.int (ch.toInt8.toInt32)), (.int (Int32.ofNat ct)), (.ref va)]) _
  obtain ⟨E1, G1, G2, G3, kb, vs, V1, lv⟩ := id B1
  obtain ⟨T287, h287, L287, sl287, X287, e287, W287, V287, N287, st287⟩ := stBv X285 hx hZ e285 V1 N285 hva (j := (Int32.ofNat ct)) ⟨ofN_nn (by omega), ofN_lt16 (by omega)⟩ ct (ofN_cl (by omega)) (by rw [lv]; omega) (g := (mkF m 41 #[vR ta, vI ch] [(.int (ch.toInt8.toInt32)), (.int (Int32.ofNat ct)), (.ref va)])) rfl rfl (dq (dg dcc 23 rfl))
  have KK288 : Keep h0 h287 [ta, va] := KK286.wr W287 (Or.inl (by simp))
  refine R0_ st287 ?_
  show Rch p e below T287 (mkF m 42 #[vR ta, vI ch] []) _
  have B2 := sb_kpA hw B1 (Keep.of_wr W287) ⟨_, _, V287, by simp [lv]⟩
  refine R1 (XS.goto X287.here hx rfl (pc0 := 42) (pc' := 75) rfl (dq (dg dcc 24 rfl)) (by decide) (by decide)) ?_
  refine R1 (XS.aloadN X287.here hx rfl (dq (dg dcc 25 rfl)) rfl rfl) ?_
  show Rch p e below T287 (mkF m 76 #[vR ta, vI ch] [(.ref ta)]) _
  exact Rch.fin (Q := Q_asbAppC Z ta va ct ch h0 n0) X287 (v := some (.ref ta)) (fun h => by rw [Bd.returns] at h; cases h) (BodyLoose.notSynchronized Bd) (fun fs hr => retR X287 hx Bd.returns rfl rfl (dq (dg dcc 26 rfl)) hr) (by rw [e287]; exact ⟨rfl, N287, KK288, B2⟩) (by decide) (by decide)
theorem dbc : dxs jdk_67_method_14_code [(0, .aload_n 0, 1), (1, .iload_n 1, 1), (2, .invokespecial 50, 3), (5, .pop, 1), (6, .aload_n 0, 1), (7, .areturn, 1)] = true := by decide +kernel
theorem pn_sbAppC : plainFor (⟨"java/lang/StringBuilder", "append", "(C)Ljava/lang/StringBuilder;"⟩ : MethodName) = true := plainFor_of_name (by first | (simp [plainName, overriddenIn]; done) | decide +kernel)
def Q_sbAppC (Z : State) (ta va : Addr) (ct : Nat) (ch : Int32) (h0 : Heap) (n0 : Nat) (v : Option Value) (h : Heap) (L : List Loc) : Prop := v = some (.ref ta) ∧ Fr n0 L ∧ Keep h0 h [ta, va] ∧ Sb Z h ta va (ct + 1)
set_option maxRecDepth 65536 in
set_option maxHeartbeats 40000000 in
theorem rm_sbAppC (l : Launch) (Z : State) (a0 : Array Value) (hw : ∀ d ∈ tables_1, d.before a0 Z = true) (ws : List Jvm.Cond) (ta va : Addr) (ct : Nat) (ch : Int32) (h0 : Heap) (n0 : Nat) (Z0 : n0 ≤ h0.size) (B : Sb Z h0 ta va ct) (hthis : n0 ≤ ta) (hva : n0 ≤ va) (hfit : ct + 1 ≤ 16) (hch : ¬ (255 : Int32) < ch) (CS : Cmp Z h0) :
    MetFree l mN50 (head1 (Jvm.Cond.code mN50 jdk_67_method_14_code 2 (some (.object "java/lang/StringBuilder")) :: ws) rO10) (fun a U => a = #[(.ref ta), (.int ch)] ∧ Z.Warmed39 U.vm ∧ U.heap = h0) (fun _ _ _ _ _ => True) (fun _ U o U' => ∃ v L, o = .returned v ∧ Q_sbAppC Z ta va ct ch h0 n0 v U'.heap L ∧ FrameEnd U o U' L rO10.cells rO10.slots) := by
  refine MetFree.of_bodySF pn_sbAppC hisR ?_
  intro p e s m args below meth c s₁ Bd hml0 hP hK
  obtain ⟨rfl, hZ, hh⟩ := hP
  have hx := Bd.exec
  have hby := Bd.bytes
  have dq := @hb _ _ hby
  have hml : c.maxLocals = 2 := hml0
  have hown : s.vm.findClass "java/lang/StringBuilder" = some m.cls := findClass_of_methodNamed Bd.named
  have X0 : Stand p l e rO10 s m #[(.ref ta), (.int ch)] below meth c s₁ [] 0 0 := Stand.of_body Bd
  have e0 : s₁.heap = h0 := by rw [← hh, Bd.state]; rfl
  have N0 := Fr.nil n0
  show Rch p e below s₁ (entryFrame m #[(.ref ta), (.int ch)] 2) (fun U o => ∃ v L, o = .returned v ∧ Q_sbAppC Z ta va ct ch h0 n0 v U.heap L ∧ FrameEnd s o U L rO10.cells rO10.slots)
  refine Rch.cast (ef_alElem m ta ch) ?_
  show Rch p e below s₁ (mkF m 0 #[vR ta, vI ch] []) _
  refine R1 (XS.aloadN X0.here hx rfl (dq (dg dbc 0 rfl)) rfl rfl) ?_
  refine R1 (XS.iloadN X0.here hx rfl (dq (dg dbc 1 rfl)) rfl) ?_
  show Rch p e below s₁ (mkF m 2 #[vR ta, vI ch] [(.int ch), (.ref ta)]) _
  obtain ⟨_, _, ⟨T289, L289, k289, n289⟩, -, X289, ⟨Lc289, hQ289, l289, y289, z289⟩, st289⟩ := superBack X0 hx hZ (y := mN49) hown (wq hw 320 rfl) (same_of (wq hw 321 rfl) (wq hw 327 rfl) rfl (by decide)) (wq hw 321 rfl) (wq hw 278 rfl) (by decide) (backOf (W := 0) (rm_asbAppC l Z a0 hw [] ta va ct ch h0 n0 Z0 B hthis hva hfit hch CS) hZ (wq hw 323 rfl) (wq hw 263 rfl) (by decide) (by decide)) e0 (Ins.self B.1) (g := (mkF m 2 #[vR ta, vI ch] [(.int ch), (.ref ta)])) rfl (by rw [hml]; rfl) (wq hw 323 rfl) (argsL := [(.int ch)]) (rest := []) (lenOf pd_25 rfl) rfl (w0 rfl) (dq (dg dbc 2 rfl)) (fun _ _ => ⟨rfl, e0, (by decide : 0 + 0 ≤ _), (by decide : 0 + 0 ≤ _)⟩)
  dsimp only [Pt.U, Pt.locs, Pt.cells, Pt.slots] at X289 l289 y289 z289 st289 hQ289
  subst l289 y289 z289
  obtain ⟨rfl, Nq289, K289, B289⟩ := hQ289
  have N289 := Fr.app N0 Nq289
  have KK290 : Keep h0 T289.heap [ta, va] := (Keep.refl _ _).trans K289 (allS (Or.inl (by simp)) (allS (Or.inl (by simp)) all0))
  refine R2 st289 ?_
  show Rch p e below T289 (mkF m 5 #[vR ta, vI ch] [(.ref ta)]) _
  refine R1 (XT.pop X289.here hx rfl (dq (dg dbc 3 rfl)) rfl rfl) ?_
  refine R1 (XS.aloadN X289.here hx rfl (dq (dg dbc 4 rfl)) rfl rfl) ?_
  show Rch p e below T289 (mkF m 7 #[vR ta, vI ch] [(.ref ta)]) _
  exact Rch.fin (Q := Q_sbAppC Z ta va ct ch h0 n0) X289 (v := some (.ref ta)) (fun h => by rw [Bd.returns] at h; cases h) (BodyLoose.notSynchronized Bd) (fun fs hr => retR X289 hx Bd.returns rfl rfl (dq (dg dbc 5 rfl)) hr) ⟨rfl, N289, KK290, B289⟩ (by decide) (by decide)
theorem sub0 (x : Int32) : x - (0 : Int32) = x := by simp
theorem ofN_ne16 {a : Nat} (h : a ≤ 15) : ¬ Int32.ofNat a = 16 := by
  have t : ∀ k : Fin 16, ¬ Int32.ofNat k.val = 16 := by decide
  exact t ⟨a, by omega⟩
theorem ofN_le16 {a : Nat} (h : a ≤ 16) : ¬ (16 : Int32) < Int32.ofNat a := by
  have t : ∀ k : Fin 17, ¬ (16 : Int32) < Int32.ofNat k.val := by decide
  exact t ⟨a, by omega⟩
theorem sl1 {Z : State} {h : Heap} {x : Addr} {c1 : Int32} (A : StrA Z h x [c1]) (k1 : C8 c1) : Sl Z h x 1 := slOf A (fun c hc => by cases List.mem_singleton.mp hc; exact k1.1.2)
theorem sl2 {Z : State} {h : Heap} {x : Addr} {c1 c2 : Int32} (A : StrA Z h x [c1, c2]) (k1 : C8 c1) (k2 : C8 c2) : Sl Z h x 2 := slOf A (fun c hc => by
  rcases List.mem_cons.mp hc with rfl | q
  · exact k1.1.2
  · cases List.mem_singleton.mp q; exact k2.1.2)
theorem acY {a b : Addr} (q : ¬ a = b) : XT.acmp .eq (.ref a) (.ref b) = false := decide_eq_false (fun z => q (by cases z; rfl))
theorem law_n (x : Int32) : (((x &&& (2147483647 : Int32)) % (3 : Int32)) + (1 : Int32)) = 1 ∨ (((x &&& (2147483647 : Int32)) % (3 : Int32)) + (1 : Int32)) = 2 ∨ (((x &&& (2147483647 : Int32)) % (3 : Int32)) + (1 : Int32)) = 3 := by
  have a := c_mask x 2147483647 31 (by decide) (by decide)
  have b := (c_irem (x &&& 2147483647) 3 3 (by decide)).1 (by rw [a]; exact Int.emod_nonneg _ (by decide))
  have c1 := Int.emod_nonneg (x &&& 2147483647).toInt (show (3 : Int) ≠ 0 by decide)
  have c2 := Int.emod_lt_of_pos (x &&& 2147483647).toInt (show (0 : Int) < 3 by decide)
  have e0 : (0 : Int32).toInt = 0 := rfl
  have e1 : (1 : Int32).toInt = 1 := rfl
  have e2 : (2 : Int32).toInt = 2 := rfl
  rw [← b] at c1 c2
  rcases (show ((x &&& 2147483647) % 3).toInt = 0 ∨ ((x &&& 2147483647) % 3).toInt = 1 ∨ ((x &&& 2147483647) % 3).toInt = 2 by omega) with q | q | q
  · exact Or.inl (by rw [Int32.toInt_inj.mp (q.trans e0.symm)]; decide)
  · exact Or.inr (Or.inl (by rw [Int32.toInt_inj.mp (q.trans e1.symm)]; decide))
  · exact Or.inr (Or.inr (by rw [Int32.toInt_inj.mp (q.trans e2.symm)]; decide))
theorem ovr_start {Z : State} {a0 : Array Value} {h : Heap} {a : Addr} {cl : Cell} {ty : FieldType} (w : (Cond.arrayOver (.object "java/lang/Object")).before a0 Z = true) (E : Exa Z h a "[Ljava/lang/Object;") (A : Arr Z h a cl ty) : Ovr Z cl.cls "java/lang/Object" := by
  obtain ⟨comp, c, k, q1, -, q3, q4, q5⟩ := Cond.arrayOver_spec w
  obtain ⟨cell, k2, e1, e2, e3, -⟩ := E
  cases e1.symm.trans A.1
  have had : "[" ++ (FieldType.object "java/lang/Object").toString = "[Ljava/lang/Object;" := by decide
  rw [had] at q5
  cases q5.symm.trans e2
  exact ⟨k, comp, q3, q4, q1⟩
def Chn (Z : State) (h : Heap) (a tl tx : Addr) : Prop := Exa Z h a "com/example/ampersat/ampersat/index/MetaChains$Chain" ∧ Fld Z h a "com/example/ampersat/ampersat/index/MetaChains$Chain" "types" "Ljava/util/List;" (.ref tl) ∧ Fld Z h a "com/example/ampersat/ampersat/index/MetaChains$Chain" "text" "Ljava/lang/String;" (.ref tx)
theorem Chn.ext {Z : State} {h h' : Heap} {a tl tx : Addr} (A : Chn Z h a tl tx) (E : Ext h h') : Chn Z h' a tl tx := ⟨A.1.ext E, A.2.1.ext E, A.2.2.ext E⟩
theorem L12p.keepC {Z : State} {h h' : Heap} {t x y a : Addr} (A : L12p Z h t x y) (K : Keep h h' [a]) (E : Exa Z h a "com/example/ampersat/ampersat/index/MetaChains$Chain") : L12p Z h' t x y := by
  have q : t ∉ [a] := ninS (A.1.ne E (by decide)) nin0
  exact ⟨A.1.keep K, A.2.1.keep K q, A.2.2.keep K q⟩
theorem LNp.keepC {Z : State} {h h' : Heap} {t a : Addr} {n : Int32} {vs : List Value} (A : LNp Z h t n vs) (K : Keep h h' [a]) (E : Exa Z h a "com/example/ampersat/ampersat/index/MetaChains$Chain") : LNp Z h' t n vs := by
  obtain ⟨q1, eb, q2, q3⟩ := A
  exact ⟨q1.keep K, eb, q2.keep K (ninS (q1.ne E (by decide)) nin0), q3.keep K (ninS (q3.1.ne E (by decide)) nin0)⟩
theorem dcl : dxs jdk_65_method_131_code [(0, .iload_n 1, 1), (1, .iload_n 0, 1), (2, .if_icmp .ge 35, 3), (37, .return_, 1)] = true := by decide +kernel
theorem pn_chkL : plainFor (⟨"java/util/Arrays", "checkLength", "(II)V"⟩ : MethodName) = true := plainFor_of_name (by first | (simp [plainName, overriddenIn]; done) | decide +kernel)
def Q_chkL (Z : State) (x y : Int32) (h0 : Heap) (n0 : Nat) (v : Option Value) (h : Heap) (L : List Loc) : Prop := v = none ∧ Fr n0 L ∧ h = h0
set_option maxRecDepth 65536 in
set_option maxHeartbeats 40000000 in
theorem rm_chkL (l : Launch) (Z : State) (a0 : Array Value) (hw : ∀ d ∈ tables_1, d.before a0 Z = true) (ws : List Jvm.Cond) (x y : Int32) (h0 : Heap) (n0 : Nat) (Z0 : n0 ≤ h0.size) (hxy : ¬ y < x) :
    MetFree l mN51 (head1 (Jvm.Cond.code mN51 jdk_65_method_131_code 2 none :: ws) rO3) (fun a U => a = #[(.int x), (.int y)] ∧ Z.Warmed39 U.vm ∧ U.heap = h0) (fun _ _ _ _ _ => True) (fun _ U o U' => ∃ v L, o = .returned v ∧ Q_chkL Z x y h0 n0 v U'.heap L ∧ FrameEnd U o U' L rO3.cells rO3.slots) := by
  refine MetFree.of_bodySF pn_chkL hisR ?_
  intro p e s m args below meth c s₁ Bd hml0 hP hK
  obtain ⟨rfl, hZ, hh⟩ := hP
  have hx := Bd.exec
  have hby := Bd.bytes
  have dq := @hb _ _ hby
  have hml : c.maxLocals = 2 := hml0
  have X0 : Stand p l e rO3 s m #[(.int x), (.int y)] below meth c s₁ [] 0 0 := Stand.of_body Bd
  have e0 : s₁.heap = h0 := by rw [← hh, Bd.state]; rfl
  have N0 := Fr.nil n0
  show Rch p e below s₁ (entryFrame m #[(.int x), (.int y)] 2) (fun U o => ∃ v L, o = .returned v ∧ Q_chkL Z x y h0 n0 v U.heap L ∧ FrameEnd s o U L rO3.cells rO3.slots)
  refine Rch.cast (ef_mmax m x y) ?_
  show Rch p e below s₁ (mkF m 0 #[vI x, vI y] []) _
  refine R1 (XS.iloadN X0.here hx rfl (dq (dg dcl 0 rfl)) rfl) ?_
  refine R1 (XS.iloadN X0.here hx rfl (dq (dg dcl 1 rfl)) rfl) ?_
  refine R1 (XS.icmpYes X0.here hx rfl (pc0 := 2) (pc' := 37) rfl (dq (dg dcl 2 rfl)) rfl (flt hxy).2.1 (by decide) (by decide)) ?_
  show Rch p e below s₁ (mkF m 37 #[vI x, vI y] []) _
  exact Rch.fin (Q := Q_chkL Z x y h0 n0) X0 (v := none) (fun _ => rfl) (BodyLoose.notSynchronized Bd) (fun fs hr => X0.returnOut hx Bd.returns (dq (dg dcl 3 rfl)) hr) (by rw [e0]; exact ⟨rfl, N0, rfl⟩) (by decide) (by decide)
theorem drb : dxs jdk_65_method_133_code [(0, .iload_n 1, 1), (1, .iload_n 2, 1), (2, .invokestatic 343, 3), (5, .iload_n 2, 1), (6, .iload_n 1, 1), (7, .isub, 1), (8, .istore_n 3, 1), (9, .iload_n 3, 1), (10, .newarray .byte, 2), (12, .astore 4, 2), (14, .aload_n 0, 1), (15, .iload_n 1, 1), (16, .aload 4, 2), (18, .iconst 0, 1), (19, .aload_n 0, 1), (20, .arraylength, 1), (21, .iload_n 1, 1), (22, .isub, 1), (23, .iload_n 3, 1), (24, .invokestatic 304, 3), (27, .invokestatic 150, 3), (30, .aload 4, 2), (32, .areturn, 1)] = true := by decide +kernel
theorem pn_corB : plainFor (⟨"java/util/Arrays", "copyOfRangeByte", "([BII)[B"⟩ : MethodName) = true := plainFor_of_name (by first | (simp [plainName, overriddenIn]; done) | decide +kernel)
theorem ef_corB (m : MethodId) (x0 : Addr) (x1 : Int32) (x2 : Int32) : entryFrame m #[(.ref x0), (.int x1), (.int x2)] 5 = mkF m 0 #[vR x0, vI x1, vI x2, .unset, .unset] [] := by first | (simp [entryFrame, mkF, argsToLocals, Value.category]; done) | rfl
def Q_corB (Z : State) (va : Addr) (n : Nat) (h0 : Heap) (n0 : Nat) (v : Option Value) (h : Heap) (L : List Loc) : Prop := ∃ b, v = some (.ref b) ∧ Fr n0 L ∧ Ext h0 h ∧ h0.size ≤ b
set_option maxRecDepth 65536 in
set_option maxHeartbeats 40000000 in
theorem rm_corB (l : Launch) (Z : State) (a0 : Array Value) (hw : ∀ d ∈ tables_1, d.before a0 Z = true) (ws : List Jvm.Cond) (va : Addr) (n : Nat) (h0 : Heap) (n0 : Nat) (Z0 : n0 ≤ h0.size) (V : ∃ k vs, Arv Z h0 va k .byte 16 vs (.int 0) ∧ vs.length = 16) (hct : n ≤ 15) :
    MetFree l mN52 (head1 (Jvm.Cond.code mN52 jdk_65_method_133_code 5 (some (.array .byte)) :: ws) rO37) (fun a U => a = #[(.ref va), (.int (0 : Int32)), (.int (Int32.ofNat n))] ∧ Z.Warmed39 U.vm ∧ U.heap = h0) (fun _ _ _ _ _ => True) (fun _ U o U' => ∃ v L, o = .returned v ∧ Q_corB Z va n h0 n0 v U'.heap L ∧ FrameEnd U o U' L rO37.cells rO37.slots) := by
  refine MetFree.of_bodySF pn_corB hisR ?_
  intro p e s m args below meth c s₁ Bd hml0 hP hK
  obtain ⟨rfl, hZ, hh⟩ := hP
  have hx := Bd.exec
  have hby := Bd.bytes
  have dq := @hb _ _ hby
  have hml : c.maxLocals = 5 := hml0
  have hown : s.vm.findClass "java/util/Arrays" = some m.cls := findClass_of_methodNamed Bd.named
  have X0 : Stand p l e rO37 s m #[(.ref va), (.int (0 : Int32)), (.int (Int32.ofNat n))] below meth c s₁ [] 0 0 := Stand.of_body Bd
  have e0 : s₁.heap = h0 := by rw [← hh, Bd.state]; rfl
  have N0 := Fr.nil n0
  show Rch p e below s₁ (entryFrame m #[(.ref va), (.int (0 : Int32)), (.int (Int32.ofNat n))] 5) (fun U o => ∃ v L, o = .returned v ∧ Q_corB Z va n h0 n0 v U.heap L ∧ FrameEnd s o U L rO37.cells rO37.slots)
  refine Rch.cast (ef_corB m va (0 : Int32) (Int32.ofNat n)) ?_
  show Rch p e below s₁ (mkF m 0 #[vR va, vI (0 : Int32), vI (Int32.ofNat n), .unset, .unset] []) _
  obtain ⟨kv, vs, V2, lv⟩ := id V
  have c2 : (Int32.ofNat n).toNatClampNeg = n := ofN_cl (by omega)
  have n2 : ¬ (Int32.ofNat n) < 0 := ofN_nn (by omega)
  refine R1 (XS.iloadN X0.here hx rfl (dq (dg drb 0 rfl)) rfl) ?_
  refine R1 (XS.iloadN X0.here hx rfl (dq (dg drb 1 rfl)) rfl) ?_
  show Rch p e below s₁ (mkF m 2 #[vR va, vI (0 : Int32), vI (Int32.ofNat n), .unset, .unset] [(.int (Int32.ofNat n)), (.int (0 : Int32))]) _
  obtain ⟨_, _, ⟨T291, L291, k291, n291⟩, -, X291, ⟨Lc291, hQ291, l291, y291, z291⟩, st291⟩ := Jvm.LawKit.callS X0 hx (y := mN51) hown (mw hZ hw 362 rfl) (mw hZ hw 363 rfl) (mw hZ hw 171 rfl) (mw hZ hw 364 rfl) (by decide) (backOf (W := 0) (rm_chkL l Z a0 hw [] (0 : Int32) (Int32.ofNat n) h0 n0 Z0 n2) hZ (wq hw 364 rfl) (wq hw 171 rfl) (by decide) (by decide)) (g := (mkF m 2 #[vR va, vI (0 : Int32), vI (Int32.ofNat n), .unset, .unset] [(.int (Int32.ofNat n)), (.int (0 : Int32))])) rfl (by rw [hml]; rfl) (argsL := [(.int (0 : Int32)), (.int (Int32.ofNat n))]) (rest := []) (lenOf pd_26 rfl) rfl (w0 rfl) (dq (dg drb 2 rfl)) (fun _ _ => ⟨rfl, e0, (by decide : 0 + 0 ≤ _), (by decide : 0 + 0 ≤ _)⟩)
  dsimp only [Pt.U, Pt.locs, Pt.cells, Pt.slots] at X291 l291 y291 z291 st291 hQ291
  subst l291 y291 z291
  obtain ⟨rfl, Nq291, e291⟩ := hQ291
  have N291 := Fr.app N0 Nq291
  refine R0_ st291 ?_
  show Rch p e below T291 (mkF m 5 #[vR va, vI (0 : Int32), vI (Int32.ofNat n), .unset, .unset] []) _
  refine R1 (XS.iloadN X291.here hx rfl (dq (dg drb 3 rfl)) rfl) ?_
  refine R1 (XS.iloadN X291.here hx rfl (dq (dg drb 4 rfl)) rfl) ?_
  refine R1 (XS.isub X291.here hx rfl (dq (dg drb 5 rfl)) rfl) ?_
  show Rch p e below T291 (mkF m 8 #[vR va, vI (0 : Int32), vI (Int32.ofNat n), .unset, .unset] [(.int ((Int32.ofNat n) - (0 : Int32)))]) _
  rw [sub0]
  show Rch p e below T291 (mkF m 8 #[vR va, vI (0 : Int32), vI (Int32.ofNat n), .unset, .unset] [(.int (Int32.ofNat n))]) _
  refine R1 (XS.istoreN X291.here hx rfl (dq (dg drb 6 rfl)) rfl (l' := #[vR va, vI (0 : Int32), vI (Int32.ofNat n), vI (Int32.ofNat n), .unset]) rfl) ?_
  refine R1 (XS.iloadN X291.here hx rfl (dq (dg drb 7 rfl)) rfl) ?_
  show Rch p e below T291 (mkF m 10 #[vR va, vI (0 : Int32), vI (Int32.ofNat n), vI (Int32.ofNat n), .unset] [(.int (Int32.ofNat n))]) _
  obtain ⟨T292, h292, k292, X292, e292, E292, A292, st292⟩ := newP X291 hx hZ (wq hw 18 rfl) e291 (g := (mkF m 10 #[vR va, vI (0 : Int32), vI (Int32.ofNat n), vI (Int32.ofNat n), .unset] [(.int (Int32.ofNat n))])) rfl (dq (dg drb 8 rfl)) rfl n2 (cap := 16) (by rw [c2]; omega) (by decide) (by decide) (by decide)
  obtain ⟨a292, g292⟩ : ∃ z, z = h0.size := ⟨_, rfl⟩
  rw [← g292] at A292 st292
  have Ex293 : Ext h0 h292 := E292
  have le294 : h0.size ≤ a292 := Nat.le_of_eq g292.symm
  refine R0_ st292 ?_
  show Rch p e below T292 (mkF m 12 #[vR va, vI (0 : Int32), vI (Int32.ofNat n), vI (Int32.ofNat n), .unset] [(.ref a292)]) _
  have V292 : Arv Z h292 a292 k292 .byte (Int32.ofNat n) ([] ++ List.replicate ((Int32.ofNat n)).toNatClampNeg (.int (0 : Int32))) (.int (0 : Int32)) := (Arv.new A292 n2).pad (pad_rep [] (.int (0 : Int32)) ((Int32.ofNat n)).toNatClampNeg)
  refine R1 (XS.astore X292.here hx rfl (dq (dg drb 9 rfl)) rfl rfl (l' := #[vR va, vI (0 : Int32), vI (Int32.ofNat n), vI (Int32.ofNat n), vR a292]) rfl) ?_
  refine R1 (XS.aloadN X292.here hx rfl (dq (dg drb 10 rfl)) rfl rfl) ?_
  refine R1 (XS.iloadN X292.here hx rfl (dq (dg drb 11 rfl)) rfl) ?_
  refine R1 (XS.aload X292.here hx rfl (dq (dg drb 12 rfl)) rfl rfl) ?_
  show Rch p e below T292 (mkF m 18 #[vR va, vI (0 : Int32), vI (Int32.ofNat n), vI (Int32.ofNat n), vR a292] [(.ref a292), (.int (0 : Int32)), (.ref va)]) _
  refine R1 (XS.iconst X292.here hx rfl (dq (dg drb 13 rfl)) ) ?_
  refine R1 (XS.aloadN X292.here hx rfl (dq (dg drb 14 rfl)) rfl rfl) ?_
  show Rch p e below T292 (mkF m 20 #[vR va, vI (0 : Int32), vI (Int32.ofNat n), vI (Int32.ofNat n), vR a292] [(.ref va), (.int (0 : Int32)), (.ref a292), (.int (0 : Int32)), (.ref va)]) _
  refine R0_ (alenA X292 hx hZ e292 (V2.ext Ex293).arh (g := (mkF m 20 #[vR va, vI (0 : Int32), vI (Int32.ofNat n), vI (Int32.ofNat n), vR a292] [(.ref va), (.int (0 : Int32)), (.ref a292), (.int (0 : Int32)), (.ref va)])) rfl rfl (dq (dg drb 15 rfl))) ?_
  show Rch p e below T292 (mkF m 21 #[vR va, vI (0 : Int32), vI (Int32.ofNat n), vI (Int32.ofNat n), vR a292] [(.int (16 : Int32)), (.int (0 : Int32)), (.ref a292), (.int (0 : Int32)), (.ref va)]) _
  refine R1 (XS.iloadN X292.here hx rfl (dq (dg drb 16 rfl)) rfl) ?_
  refine R1 (XS.isub X292.here hx rfl (dq (dg drb 17 rfl)) rfl) ?_
  show Rch p e below T292 (mkF m 23 #[vR va, vI (0 : Int32), vI (Int32.ofNat n), vI (Int32.ofNat n), vR a292] [(.int ((16 : Int32) - (0 : Int32))), (.int (0 : Int32)), (.ref a292), (.int (0 : Int32)), (.ref va)]) _
  rw [sub0]
  show Rch p e below T292 (mkF m 23 #[vR va, vI (0 : Int32), vI (Int32.ofNat n), vI (Int32.ofNat n), vR a292] [(.int (16 : Int32)), (.int (0 : Int32)), (.ref a292), (.int (0 : Int32)), (.ref va)]) _
  refine R1 (XS.iloadN X292.here hx rfl (dq (dg drb 18 rfl)) rfl) ?_
  show Rch p e below T292 (mkF m 24 #[vR va, vI (0 : Int32), vI (Int32.ofNat n), vI (Int32.ofNat n), vR a292] [(.int (Int32.ofNat n)), (.int (16 : Int32)), (.int (0 : Int32)), (.ref a292), (.int (0 : Int32)), (.ref va)]) _
  obtain ⟨_, _, ⟨T295, L295, k295, n295⟩, -, X295, ⟨Lc295, hQ295, l295, y295, z295⟩, st295⟩ := Jvm.LawKit.callS X292 hx (y := mN14) hown (mw hZ hw 184 rfl) (mw hZ hw 185 rfl) (mw hZ hw 81 rfl) (mw hZ hw 186 rfl) (by decide) (backOf (W := 4) (rm_mmin l Z a0 hw [] (16 : Int32) (Int32.ofNat n) h292 n0 (Nat.le_trans Z0 Ex293.1) (ofN_le16 (by omega))) hZ (wq hw 186 rfl) (wq hw 81 rfl) (by decide) (by decide)) (g := (mkF m 24 #[vR va, vI (0 : Int32), vI (Int32.ofNat n), vI (Int32.ofNat n), vR a292] [(.int (Int32.ofNat n)), (.int (16 : Int32)), (.int (0 : Int32)), (.ref a292), (.int (0 : Int32)), (.ref va)])) rfl (by rw [hml]; rfl) (argsL := [(.int (16 : Int32)), (.int (Int32.ofNat n))]) (rest := [(.int (0 : Int32)), (.ref a292), (.int (0 : Int32)), (.ref va)]) (lenOf pd_1 rfl) rfl (w0 rfl) (dq (dg drb 19 rfl)) (fun _ _ => ⟨rfl, e292, (by decide : 1 + 0 ≤ _), (by decide : 16 + 0 ≤ _)⟩)
  dsimp only [Pt.U, Pt.locs, Pt.cells, Pt.slots] at X295 l295 y295 z295 st295 hQ295
  subst l295 y295 z295
  obtain ⟨rfl, Nq295, e295⟩ := hQ295
  have N295 := Fr.app N291 Nq295
  refine R0_ st295 ?_
  show Rch p e below T295 (mkF m 27 #[vR va, vI (0 : Int32), vI (Int32.ofNat n), vI (Int32.ofNat n), vR a292] [(.int (Int32.ofNat n)), (.int (0 : Int32)), (.ref a292), (.int (0 : Int32)), (.ref va)]) _
  obtain ⟨T296, h296, L296, X296, e296, N296, K296, V296, st296⟩ := cpA X295 hx hZ hown (wq hw 187 rfl) (wq hw 190 rfl) (wq hw 188 rfl) (wq hw 189 rfl) e295 (V2.ext Ex293) V292 (Or.inl ⟨rfl, rfl⟩) (by decide) (by decide) n2 (by show 0 + _ ≤ 16; rw [c2]; omega) (by show 0 + _ ≤ _; omega) (us := _) (sp := (0 : Int32)) (dp := (0 : Int32)) (nn := (Int32.ofNat n)) rfl (by simp) N295 (Nat.le_trans Z0 le294) (g := (mkF m 27 #[vR va, vI (0 : Int32), vI (Int32.ofNat n), vI (Int32.ofNat n), vR a292] [(.int (Int32.ofNat n)), (.int (0 : Int32)), (.ref a292), (.int (0 : Int32)), (.ref va)])) rfl (by rw [hml]; rfl) rfl (dq (dg drb 20 rfl)) (by decide) (W := 0) (w0 rfl) (by decide)
  have Ex297 : Ext h0 h296 := extKeep1 Ex293 K296 le294
  refine R0_ st296 ?_
  show Rch p e below T296 (mkF m 30 #[vR va, vI (0 : Int32), vI (Int32.ofNat n), vI (Int32.ofNat n), vR a292] []) _
  refine R1 (XS.aload X296.here hx rfl (dq (dg drb 21 rfl)) rfl rfl) ?_
  show Rch p e below T296 (mkF m 32 #[vR va, vI (0 : Int32), vI (Int32.ofNat n), vI (Int32.ofNat n), vR a292] [(.ref a292)]) _
  exact Rch.fin (Q := Q_corB Z va n h0 n0) X296 (v := some (.ref a292)) (fun h => by rw [Bd.returns] at h; cases h) (BodyLoose.notSynchronized Bd) (fun fs hr => retR X296 hx Bd.returns rfl rfl (dq (dg drb 22 rfl)) hr) (by rw [e296]; exact ⟨a292, rfl, N296, Ex297, le294⟩) (by decide) (by decide)
theorem dcr : dxs jdk_65_method_132_code [(0, .iload_n 1, 1), (1, .ifCond .ne 9, 3), (4, .iload_n 2, 1), (5, .aload_n 0, 1), (6, .arraylength, 1), (7, .if_icmp .eq 10, 3), (10, .aload_n 0, 1), (11, .iload_n 1, 1), (12, .iload_n 2, 1), (13, .invokestatic 339, 3), (16, .areturn, 1)] = true := by decide +kernel
theorem pn_cor : plainFor (⟨"java/util/Arrays", "copyOfRange", "([BII)[B"⟩ : MethodName) = true := plainFor_of_name (by first | (simp [plainName, overriddenIn]; done) | decide +kernel)
theorem ef_cor (m : MethodId) (x0 : Addr) (x1 : Int32) (x2 : Int32) : entryFrame m #[(.ref x0), (.int x1), (.int x2)] 3 = mkF m 0 #[vR x0, vI x1, vI x2] [] := by first | (simp [entryFrame, mkF, argsToLocals, Value.category]; done) | rfl
def Q_cor (Z : State) (va : Addr) (n : Nat) (h0 : Heap) (n0 : Nat) (v : Option Value) (h : Heap) (L : List Loc) : Prop := ∃ b, v = some (.ref b) ∧ Fr n0 L ∧ Ext h0 h ∧ h0.size ≤ b
set_option maxRecDepth 65536 in
set_option maxHeartbeats 40000000 in
theorem rm_cor (l : Launch) (Z : State) (a0 : Array Value) (hw : ∀ d ∈ tables_1, d.before a0 Z = true) (ws : List Jvm.Cond) (va : Addr) (n : Nat) (h0 : Heap) (n0 : Nat) (Z0 : n0 ≤ h0.size) (V : ∃ k vs, Arv Z h0 va k .byte 16 vs (.int 0) ∧ vs.length = 16) (hct : n ≤ 15) :
    MetFree l mN53 (head1 (Jvm.Cond.code mN53 jdk_65_method_132_code 3 (some (.array .byte)) :: ws) rO38) (fun a U => a = #[(.ref va), (.int (0 : Int32)), (.int (Int32.ofNat n))] ∧ Z.Warmed39 U.vm ∧ U.heap = h0) (fun _ _ _ _ _ => True) (fun _ U o U' => ∃ v L, o = .returned v ∧ Q_cor Z va n h0 n0 v U'.heap L ∧ FrameEnd U o U' L rO38.cells rO38.slots) := by
  refine MetFree.of_bodySF pn_cor hisR ?_
  intro p e s m args below meth c s₁ Bd hml0 hP hK
  obtain ⟨rfl, hZ, hh⟩ := hP
  have hx := Bd.exec
  have hby := Bd.bytes
  have dq := @hb _ _ hby
  have hml : c.maxLocals = 3 := hml0
  have hown : s.vm.findClass "java/util/Arrays" = some m.cls := findClass_of_methodNamed Bd.named
  have X0 : Stand p l e rO38 s m #[(.ref va), (.int (0 : Int32)), (.int (Int32.ofNat n))] below meth c s₁ [] 0 0 := Stand.of_body Bd
  have e0 : s₁.heap = h0 := by rw [← hh, Bd.state]; rfl
  have N0 := Fr.nil n0
  show Rch p e below s₁ (entryFrame m #[(.ref va), (.int (0 : Int32)), (.int (Int32.ofNat n))] 3) (fun U o => ∃ v L, o = .returned v ∧ Q_cor Z va n h0 n0 v U.heap L ∧ FrameEnd s o U L rO38.cells rO38.slots)
  refine Rch.cast (ef_cor m va (0 : Int32) (Int32.ofNat n)) ?_
  show Rch p e below s₁ (mkF m 0 #[vR va, vI (0 : Int32), vI (Int32.ofNat n)] []) _
  obtain ⟨kv, vs, V2, lv⟩ := id V
  refine R1 (XS.iloadN X0.here hx rfl (dq (dg dcr 0 rfl)) rfl) ?_
  refine R1 (XS.ifNo X0.here hx rfl (dq (dg dcr 1 rfl)) rfl (by decide : ifCond.holds .ne (0 : Int32) = false)) ?_
  refine R1 (XS.iloadN X0.here hx rfl (dq (dg dcr 2 rfl)) rfl) ?_
  refine R1 (XS.aloadN X0.here hx rfl (dq (dg dcr 3 rfl)) rfl rfl) ?_
  show Rch p e below s₁ (mkF m 6 #[vR va, vI (0 : Int32), vI (Int32.ofNat n)] [(.ref va), (.int (Int32.ofNat n))]) _
  refine R0_ (alenA X0 hx hZ e0 V2.arh (g := (mkF m 6 #[vR va, vI (0 : Int32), vI (Int32.ofNat n)] [(.ref va), (.int (Int32.ofNat n))])) rfl rfl (dq (dg dcr 4 rfl))) ?_
  show Rch p e below s₁ (mkF m 7 #[vR va, vI (0 : Int32), vI (Int32.ofNat n)] [(.int (16 : Int32)), (.int (Int32.ofNat n))]) _
  refine R1 (XS.icmpNo X0.here hx rfl (dq (dg dcr 5 rfl)) rfl (feq (ofN_ne16 hct)).1) ?_
  refine R1 (XS.aloadN X0.here hx rfl (dq (dg dcr 6 rfl)) rfl rfl) ?_
  refine R1 (XS.iloadN X0.here hx rfl (dq (dg dcr 7 rfl)) rfl) ?_
  refine R1 (XS.iloadN X0.here hx rfl (dq (dg dcr 8 rfl)) rfl) ?_
  show Rch p e below s₁ (mkF m 13 #[vR va, vI (0 : Int32), vI (Int32.ofNat n)] [(.int (Int32.ofNat n)), (.int (0 : Int32)), (.ref va)]) _
  obtain ⟨_, _, ⟨T298, L298, k298, n298⟩, -, X298, ⟨Lc298, hQ298, l298, y298, z298⟩, st298⟩ := Jvm.LawKit.callS X0 hx (y := mN52) hown (mw hZ hw 359 rfl) (mw hZ hw 360 rfl) (mw hZ hw 171 rfl) (mw hZ hw 361 rfl) (by decide) (backOf (W := 0) (rm_corB l Z a0 hw [] va n h0 n0 Z0 V hct) hZ (wq hw 361 rfl) (wq hw 171 rfl) (by decide) (by decide)) (g := (mkF m 13 #[vR va, vI (0 : Int32), vI (Int32.ofNat n)] [(.int (Int32.ofNat n)), (.int (0 : Int32)), (.ref va)])) rfl (by rw [hml]; rfl) (argsL := [(.ref va), (.int (0 : Int32)), (.int (Int32.ofNat n))]) (rest := []) (lenOf pd_27 rfl) rfl (w0 rfl) (dq (dg dcr 9 rfl)) (fun _ _ => ⟨rfl, e0, (by decide : 0 + 1 ≤ _), (by decide : 0 + 16 ≤ _)⟩)
  dsimp only [Pt.U, Pt.locs, Pt.cells, Pt.slots] at X298 l298 y298 z298 st298 hQ298
  subst l298 y298 z298
  obtain ⟨b298, rfl, Nq298, E298, le298_⟩ := hQ298
  have N298 := Fr.app N0 Nq298
  have Ex299 : Ext h0 T298.heap := E298
  refine R0_ st298 ?_
  show Rch p e below T298 (mkF m 16 #[vR va, vI (0 : Int32), vI (Int32.ofNat n)] [(.ref b298)]) _
  exact Rch.fin (Q := Q_cor Z va n h0 n0) X298 (v := some (.ref b298)) (fun h => by rw [Bd.returns] at h; cases h) (BodyLoose.notSynchronized Bd) (fun fs hr => retR X298 hx Bd.returns rfl rfl (dq (dg dcr 10 rfl)) hr) ⟨b298, rfl, N298, Ex299, le298_⟩ (by decide) (by decide)
theorem dsv : dxs jdk_42_method_150_code [(0, .aload_n 0, 1), (1, .invokespecial 1, 3), (4, .aload_n 1, 1), (5, .invokevirtual 552, 3), (8, .astore_n 3, 1), (9, .aload_n 1, 1), (10, .invokevirtual 549, 3), (13, .istore 4, 2), (15, .aload_n 1, 1), (16, .invokevirtual 1047, 3), (19, .ifCond .eq 22, 3), (22, .aload_n 0, 1), (23, .iconst 0, 1), (24, .putfield 15, 3), (27, .aload_n 0, 1), (28, .aload_n 3, 1), (29, .iconst 0, 1), (30, .iload 4, 2), (32, .invokestatic 54, 3), (35, .putfield 9, 3), (38, .goto 59, 3), (97, .return_, 1)] = true := by decide +kernel
theorem pn_siA : plainFor (⟨"java/lang/String", "<init>", "(Ljava/lang/AbstractStringBuilder;Ljava/lang/Void;)V"⟩ : MethodName) = true := plainFor_of_name (by first | (simp [plainName, overriddenIn]; done) | decide +kernel)
theorem ef_siA (m : MethodId) (x0 : Addr) (x1 : Addr) : entryFrame m #[(.ref x0), (.ref x1), .null] 5 = mkF m 0 #[vR x0, vR x1, .val .null, .unset, .unset] [] := by first | (simp [entryFrame, mkF, argsToLocals, Value.category]; done) | rfl
def Q_siA (Z : State) (ta sb va : Addr) (ct : Nat) (h0 : Heap) (n0 : Nat) (v : Option Value) (h : Heap) (L : List Loc) : Prop := v = none ∧ Fr n0 L ∧ Keep h0 h [ta] ∧ Exa Z h ta "java/lang/String"
set_option maxRecDepth 65536 in
set_option maxHeartbeats 40000000 in
theorem rm_siA (l : Launch) (Z : State) (a0 : Array Value) (hw : ∀ d ∈ tables_1, d.before a0 Z = true) (ws : List Jvm.Cond) (ta sb va : Addr) (ct : Nat) (h0 : Heap) (n0 : Nat) (Z0 : n0 ≤ h0.size) (hthis : n0 ≤ ta) (E1 : Exa Z h0 ta "java/lang/String") (F1 : Fld Z h0 ta "java/lang/String" "value" "[B" .null) (F2 : Fld Z h0 ta "java/lang/String" "coder" "B" (.int 0)) (B : Sb Z h0 sb va ct) (hct : ct ≤ 15) (CS : Cmp Z h0) :
    MetFree l mN54 (head1 (Jvm.Cond.code mN54 jdk_42_method_150_code 5 none :: ws) rO39) (fun a U => a = #[(.ref ta), (.ref sb), .null] ∧ Z.Warmed39 U.vm ∧ U.heap = h0) (fun _ _ _ _ _ => True) (fun _ U o U' => ∃ v L, o = .returned v ∧ Q_siA Z ta sb va ct h0 n0 v U'.heap L ∧ FrameEnd U o U' L rO39.cells rO39.slots) := by
  refine MetFree.of_bodySF pn_siA hisR ?_
  intro p e s m args below meth c s₁ Bd hml0 hP hK
  obtain ⟨rfl, hZ, hh⟩ := hP
  have hx := Bd.exec
  have hby := Bd.bytes
  have dq := @hb _ _ hby
  have hml : c.maxLocals = 5 := hml0
  have hown : s.vm.findClass "java/lang/String" = some m.cls := findClass_of_methodNamed Bd.named
  have hnm := (name_of_methodNamed Bd.named Bd.method).1
  have X0 : Stand p l e rO39 s m #[(.ref ta), (.ref sb), .null] below meth c s₁ [] 0 0 := Stand.of_body Bd
  have e0 : s₁.heap = h0 := by rw [← hh, Bd.state]; rfl
  have N0 := Fr.nil n0
  show Rch p e below s₁ (entryFrame m #[(.ref ta), (.ref sb), .null] 5) (fun U o => ∃ v L, o = .returned v ∧ Q_siA Z ta sb va ct h0 n0 v U.heap L ∧ FrameEnd s o U L rO39.cells rO39.slots)
  refine Rch.cast (ef_siA m ta sb) ?_
  show Rch p e below s₁ (mkF m 0 #[vR ta, vR sb, .val .null, .unset, .unset] []) _
  have hsl : Jvm.RoadKit.slotOf Z "java/lang/String" "value" "[B" ≠ Jvm.RoadKit.slotOf Z "java/lang/String" "coder" "B" := slot_ne (C := "java/lang/String") (Or.inr (wq hw 27 rfl)) (Or.inr (wq hw 29 rfl)) (by decide) (t := .array .byte) (t' := .byte) (by decide) (by decide)
  obtain ⟨kv, vs, V2, lv⟩ := id B.2.2.2.2
  have ne : va ≠ ta := Ne.symm (E1.neArv V2 (wq hw 14 rfl))
  refine R1 (XS.aloadN X0.here hx rfl (dq (dg dsv 0 rfl)) rfl rfl) ?_
  show Rch p e below s₁ (mkF m 1 #[vR ta, vR sb, .val .null, .unset, .unset] [(.ref ta)]) _
  obtain ⟨T300, X300, e300, st300⟩ := initO X0 hx hZ hown (wq hw 23 rfl) (wq hw 24 rfl) (wq hw 25 rfl) e0 (g := (mkF m 1 #[vR ta, vR sb, .val .null, .unset, .unset] [(.ref ta)])) rfl (by rw [hml]; rfl) rfl (dq (dg dsv 1 rfl)) (by decide) (W := 0) (w0 rfl) (by decide)
  refine R0_ st300 ?_
  show Rch p e below T300 (mkF m 4 #[vR ta, vR sb, .val .null, .unset, .unset] []) _
  refine R1 (XS.aloadN X300.here hx rfl (dq (dg dsv 2 rfl)) rfl rfl) ?_
  show Rch p e below T300 (mkF m 5 #[vR ta, vR sb, .val .null, .unset, .unset] [(.ref sb)]) _
  obtain ⟨cq301, kq301, q301a, q301b, q301c⟩ := isOf hZ e300 B.1
  obtain ⟨_, _, ⟨T301, L301, k301, n301⟩, -, X301, ⟨Lc301, hQ301, l301, y301, z301⟩, st301⟩ := X300.virtualBack hx (y := mN41) (z := mN41) hown (mw hZ hw 342 rfl) (mw hZ hw 343 rfl) (notFace_of_selects (args := #[]) (mw hZ hw 345 rfl)) (mw hZ hw 345 rfl) (mw hZ hw 344 rfl) (by decide) (backOf (W := 0) (rm_gval l Z a0 hw [] sb va ct h0 n0 Z0 B) hZ (wq hw 346 rfl) (wq hw 263 rfl) (by decide) (by decide)) q301a q301c (g := (mkF m 5 #[vR ta, vR sb, .val .null, .unset, .unset] [(.ref sb)])) rfl (by rw [hml]; rfl) (Steps.refl _) (argsL := []) (rest := []) (lenOf pd_28 rfl) rfl (w0 rfl) (dq (dg dsv 3 rfl)) (fun _ _ => ⟨rfl, e300, (by decide : 0 + 0 ≤ _), (by decide : 0 + 0 ≤ _)⟩)
  dsimp only [Pt.U, Pt.locs, Pt.cells, Pt.slots] at X301 l301 y301 z301 st301 hQ301
  subst l301 y301 z301
  obtain ⟨rfl, Nq301, e301⟩ := hQ301
  have N301 := Fr.app N0 Nq301
  refine R2 st301 ?_
  show Rch p e below T301 (mkF m 8 #[vR ta, vR sb, .val .null, .unset, .unset] [(.ref va)]) _
  refine R1 (XS.astoreN X301.here hx rfl (dq (dg dsv 4 rfl)) rfl rfl (l' := #[vR ta, vR sb, .val .null, vR va, .unset]) rfl) ?_
  refine R1 (XS.aloadN X301.here hx rfl (dq (dg dsv 5 rfl)) rfl rfl) ?_
  show Rch p e below T301 (mkF m 10 #[vR ta, vR sb, .val .null, vR va, .unset] [(.ref sb)]) _
  obtain ⟨cq302, kq302, q302a, q302b, q302c⟩ := isOf hZ e301 B.1
  obtain ⟨_, _, ⟨T302, L302, k302, n302⟩, -, X302, ⟨Lc302, hQ302, l302, y302, z302⟩, st302⟩ := X301.virtualBack hx (y := mN42) (z := mN43) hown (mw hZ hw 347 rfl) (mw hZ hw 348 rfl) (nfOf (args := #[]) (y := mN42) (mw hZ hw 327 rfl) rfl) (mw hZ hw 350 rfl) (mw hZ hw 351 rfl) (by decide) (backOf (W := 0) (rm_blen l Z a0 hw [] sb va ct h0 n0 Z0 B) hZ (wq hw 352 rfl) (wq hw 255 rfl) (by decide) (by decide)) q302a q302c (g := (mkF m 10 #[vR ta, vR sb, .val .null, vR va, .unset] [(.ref sb)])) rfl (by rw [hml]; rfl) (Steps.refl _) (argsL := []) (rest := []) (lenOf pd_20 rfl) rfl (w0 rfl) (dq (dg dsv 6 rfl)) (fun _ _ => ⟨rfl, e301, (by decide : 0 + 0 ≤ _), (by decide : 0 + 0 ≤ _)⟩)
  dsimp only [Pt.U, Pt.locs, Pt.cells, Pt.slots] at X302 l302 y302 z302 st302 hQ302
  subst l302 y302 z302
  obtain ⟨rfl, Nq302, e302⟩ := hQ302
  have N302 := Fr.app N301 Nq302
  refine R2 st302 ?_
  show Rch p e below T302 (mkF m 13 #[vR ta, vR sb, .val .null, vR va, .unset] [(.int (Int32.ofNat ct))]) _
  refine R1 (XS.istore X302.here hx rfl (dq (dg dsv 7 rfl)) rfl (l' := #[vR ta, vR sb, .val .null, vR va, vI (Int32.ofNat ct)]) rfl) ?_
  refine R1 (XS.aloadN X302.here hx rfl (dq (dg dsv 8 rfl)) rfl rfl) ?_
  show Rch p e below T302 (mkF m 16 #[vR ta, vR sb, .val .null, vR va, vI (Int32.ofNat ct)] [(.ref sb)]) _
  obtain ⟨cq303, kq303, q303a, q303b, q303c⟩ := isOf hZ e302 B.1
  obtain ⟨_, _, ⟨T303, L303, k303, n303⟩, -, X303, ⟨Lc303, hQ303, l303, y303, z303⟩, st303⟩ := X302.virtualBack hx (y := mN40) (z := mN40) hown (mw hZ hw 355 rfl) (mw hZ hw 325 rfl) (notFace_of_selects (args := #[]) (mw hZ hw 327 rfl)) (mw hZ hw 327 rfl) (mw hZ hw 326 rfl) (by decide) (backOf (W := 0) (rm_isl l Z a0 hw [] sb va ct h0 n0 Z0 B CS) hZ (wq hw 328 rfl) (wq hw 263 rfl) (by decide) (by decide)) q303a q303c (g := (mkF m 16 #[vR ta, vR sb, .val .null, vR va, vI (Int32.ofNat ct)] [(.ref sb)])) rfl (by rw [hml]; rfl) (Steps.refl _) (argsL := []) (rest := []) (lenOf pd_11 rfl) rfl (w0 rfl) (dq (dg dsv 9 rfl)) (fun _ _ => ⟨rfl, e302, (by decide : 0 + 0 ≤ _), (by decide : 0 + 0 ≤ _)⟩)
  dsimp only [Pt.U, Pt.locs, Pt.cells, Pt.slots] at X303 l303 y303 z303 st303 hQ303
  subst l303 y303 z303
  obtain ⟨rfl, Nq303, e303⟩ := hQ303
  have N303 := Fr.app N302 Nq303
  refine R2 st303 ?_
  show Rch p e below T303 (mkF m 19 #[vR ta, vR sb, .val .null, vR va, vI (Int32.ofNat ct)] [(.int (1 : Int32))]) _
  refine R1 (XS.ifNo X303.here hx rfl (dq (dg dsv 10 rfl)) rfl (by decide : ifCond.holds .eq (1 : Int32) = false)) ?_
  refine R1 (XS.aloadN X303.here hx rfl (dq (dg dsv 11 rfl)) rfl rfl) ?_
  refine R1 (XS.iconst X303.here hx rfl (dq (dg dsv 12 rfl)) ) ?_
  show Rch p e below T303 (mkF m 24 #[vR ta, vR sb, .val .null, vR va, vI (Int32.ofNat ct)] [(.int (0 : Int32)), (.ref ta)]) _
  obtain ⟨T304, h304, X304, e304, W304, st304⟩ := putF X303 hx hZ hown (host := "") (Or.inl (wq hw 28 rfl)) Via.refl e303 F2 E1 (Or.inr ⟨(wq hw 29 rfl), rfl, hnm⟩) (wq hw 14 rfl) (ty := .byte) (by decide) rfl rfl (g := (mkF m 24 #[vR ta, vR sb, .val .null, vR va, vI (Int32.ofNat ct)] [(.int (0 : Int32)), (.ref ta)])) rfl rfl (dq (dg dsv 13 rfl))
  have KK305 : Keep h0 h304 [ta] := (Keep.refl _ _).wr W304 (Or.inl (by simp))
  have N304 := Fr.snoc X304 N303 hthis
  refine R0_ st304 ?_
  show Rch p e below T304 (mkF m 27 #[vR ta, vR sb, .val .null, vR va, vI (Int32.ofNat ct)] []) _
  refine R1 (XS.aloadN X304.here hx rfl (dq (dg dsv 14 rfl)) rfl rfl) ?_
  refine R1 (XS.aloadN X304.here hx rfl (dq (dg dsv 15 rfl)) rfl rfl) ?_
  refine R1 (XS.iconst X304.here hx rfl (dq (dg dsv 16 rfl)) ) ?_
  refine R1 (XS.iload X304.here hx rfl (dq (dg dsv 17 rfl)) rfl) ?_
  show Rch p e below T304 (mkF m 32 #[vR ta, vR sb, .val .null, vR va, vI (Int32.ofNat ct)] [(.int (Int32.ofNat ct)), (.int (0 : Int32)), (.ref va), (.ref ta)]) _
  have z0 : h0.size ≤ h304.size := KK305.1
  obtain ⟨_, _, ⟨T306, L306, k306, n306⟩, -, X306, ⟨Lc306, hQ306, l306, y306, z306⟩, st306⟩ := Jvm.LawKit.callS X304 hx (y := mN53) hown (mw hZ hw 356 rfl) (mw hZ hw 357 rfl) (mw hZ hw 171 rfl) (mw hZ hw 358 rfl) (by decide) (backOf (W := 1) (rm_cor l Z a0 hw [] va ct h304 n0 (Nat.le_trans Z0 z0) ⟨kv, vs, V2.other W304 ne, lv⟩ hct) hZ (wq hw 358 rfl) (wq hw 171 rfl) (by decide) (by decide)) (g := (mkF m 32 #[vR ta, vR sb, .val .null, vR va, vI (Int32.ofNat ct)] [(.int (Int32.ofNat ct)), (.int (0 : Int32)), (.ref va), (.ref ta)])) rfl (by rw [hml]; rfl) (argsL := [(.ref va), (.int (0 : Int32)), (.int (Int32.ofNat ct))]) (rest := [(.ref ta)]) (lenOf pd_27 rfl) rfl (w0 rfl) (dq (dg dsv 18 rfl)) (fun _ _ => ⟨rfl, e304, (by decide : 0 + 1 ≤ _), (by decide : 0 + 16 ≤ _)⟩)
  dsimp only [Pt.U, Pt.locs, Pt.cells, Pt.slots] at X306 l306 y306 z306 st306 hQ306
  subst l306 y306 z306
  obtain ⟨b306, rfl, Nq306, E306, le306_⟩ := hQ306
  have N306 := Fr.app N304 Nq306
  have Ex307 : Ext h304 T306.heap := E306
  have KK308 : Keep h0 T306.heap [ta] := KK305.ext E306
  refine R0_ st306 ?_
  show Rch p e below T306 (mkF m 35 #[vR ta, vR sb, .val .null, vR va, vI (Int32.ofNat ct)] [(.ref b306), (.ref ta)]) _
  obtain ⟨T309, h309, X309, e309, W309, st309⟩ := putF X306 hx hZ hown (host := "") (Or.inl (wq hw 26 rfl)) Via.refl rfl ((F1.other W304 (Or.inr hsl)).ext Ex307) ((E1.wr W304).ext Ex307) (Or.inr ⟨(wq hw 27 rfl), rfl, hnm⟩) (wq hw 14 rfl) (ty := (.array .byte)) (by decide) rfl rfl (g := (mkF m 35 #[vR ta, vR sb, .val .null, vR va, vI (Int32.ofNat ct)] [(.ref b306), (.ref ta)])) rfl rfl (dq (dg dsv 19 rfl))
  have KK310 : Keep h0 h309 [ta] := KK308.wr W309 (Or.inl (by simp))
  have N309 := Fr.snoc X309 N306 hthis
  refine R0_ st309 ?_
  show Rch p e below T309 (mkF m 38 #[vR ta, vR sb, .val .null, vR va, vI (Int32.ofNat ct)] []) _
  have E9 := ((E1.wr W304).ext E306).wr W309
  refine R1 (XS.goto X309.here hx rfl (pc0 := 38) (pc' := 97) rfl (dq (dg dsv 20 rfl)) (by decide) (by decide)) ?_
  show Rch p e below T309 (mkF m 97 #[vR ta, vR sb, .val .null, vR va, vI (Int32.ofNat ct)] []) _
  exact Rch.fin (Q := Q_siA Z ta sb va ct h0 n0) X309 (v := none) (fun _ => rfl) (BodyLoose.notSynchronized Bd) (fun fs hr => X309.returnOut hx Bd.returns (dq (dg dsv 21 rfl)) hr) (by rw [e309]; exact ⟨rfl, N309, KK310, E9⟩) (by decide) (by decide)
theorem dsw : dxs jdk_42_method_53_code [(0, .aload_n 0, 1), (1, .aload_n 1, 1), (2, .aconst_null, 1), (3, .invokespecial 489, 3), (6, .return_, 1)] = true := by decide +kernel
theorem pn_siB : plainFor (⟨"java/lang/String", "<init>", "(Ljava/lang/StringBuilder;)V"⟩ : MethodName) = true := plainFor_of_name (by first | (simp [plainName, overriddenIn]; done) | decide +kernel)
def Q_siB (Z : State) (ta sb va : Addr) (ct : Nat) (h0 : Heap) (n0 : Nat) (v : Option Value) (h : Heap) (L : List Loc) : Prop := v = none ∧ Fr n0 L ∧ Keep h0 h [ta] ∧ Exa Z h ta "java/lang/String"
set_option maxRecDepth 65536 in
set_option maxHeartbeats 40000000 in
theorem rm_siB (l : Launch) (Z : State) (a0 : Array Value) (hw : ∀ d ∈ tables_1, d.before a0 Z = true) (ws : List Jvm.Cond) (ta sb va : Addr) (ct : Nat) (h0 : Heap) (n0 : Nat) (Z0 : n0 ≤ h0.size) (hthis : n0 ≤ ta) (E1 : Exa Z h0 ta "java/lang/String") (F1 : Fld Z h0 ta "java/lang/String" "value" "[B" .null) (F2 : Fld Z h0 ta "java/lang/String" "coder" "B" (.int 0)) (B : Sb Z h0 sb va ct) (hct : ct ≤ 15) (CS : Cmp Z h0) :
    MetFree l mN55 (head1 (Jvm.Cond.code mN55 jdk_42_method_53_code 2 none :: ws) rO40) (fun a U => a = #[(.ref ta), (.ref sb)] ∧ Z.Warmed39 U.vm ∧ U.heap = h0) (fun _ _ _ _ _ => True) (fun _ U o U' => ∃ v L, o = .returned v ∧ Q_siB Z ta sb va ct h0 n0 v U'.heap L ∧ FrameEnd U o U' L rO40.cells rO40.slots) := by
  refine MetFree.of_bodySF pn_siB hisR ?_
  intro p e s m args below meth c s₁ Bd hml0 hP hK
  obtain ⟨rfl, hZ, hh⟩ := hP
  have hx := Bd.exec
  have hby := Bd.bytes
  have dq := @hb _ _ hby
  have hml : c.maxLocals = 2 := hml0
  have hown : s.vm.findClass "java/lang/String" = some m.cls := findClass_of_methodNamed Bd.named
  have X0 : Stand p l e rO40 s m #[(.ref ta), (.ref sb)] below meth c s₁ [] 0 0 := Stand.of_body Bd
  have e0 : s₁.heap = h0 := by rw [← hh, Bd.state]; rfl
  have N0 := Fr.nil n0
  show Rch p e below s₁ (entryFrame m #[(.ref ta), (.ref sb)] 2) (fun U o => ∃ v L, o = .returned v ∧ Q_siB Z ta sb va ct h0 n0 v U.heap L ∧ FrameEnd s o U L rO40.cells rO40.slots)
  refine Rch.cast (ef_addG m ta sb) ?_
  show Rch p e below s₁ (mkF m 0 #[vR ta, vR sb] []) _
  refine R1 (XS.aloadN X0.here hx rfl (dq (dg dsw 0 rfl)) rfl rfl) ?_
  refine R1 (XS.aloadN X0.here hx rfl (dq (dg dsw 1 rfl)) rfl rfl) ?_
  refine R1 (XS.aconstNull X0.here hx rfl (dq (dg dsw 2 rfl)) ) ?_
  show Rch p e below s₁ (mkF m 3 #[vR ta, vR sb] [.null, (.ref sb), (.ref ta)]) _
  obtain ⟨_, _, ⟨T311, L311, k311, n311⟩, -, X311, ⟨Lc311, hQ311, l311, y311, z311⟩, st311⟩ := X0.specialBack hx (y := mN54) rfl hown (mw hZ hw 339 rfl) (mw hZ hw 340 rfl) (mw hZ hw 341 rfl) (by decide) (backOf (W := 0) (rm_siA l Z a0 hw [] ta sb va ct h0 n0 Z0 hthis E1 F1 F2 B hct CS) hZ (wq hw 341 rfl) (wq hw 6 rfl) (by decide) (by decide)) (g := (mkF m 3 #[vR ta, vR sb] [.null, (.ref sb), (.ref ta)])) rfl (by rw [hml]; rfl) (Steps.refl _) (a := ta) (argsL := [(.ref sb), .null]) (rest := []) (lenOf pd_29 rfl) rfl (w0 rfl) (dq (dg dsw 3 rfl)) (fun _ _ => ⟨rfl, e0, (by decide : 0 + 1 ≤ _), (by decide : 0 + 16 ≤ _)⟩)
  dsimp only [Pt.U, Pt.locs, Pt.cells, Pt.slots] at X311 l311 y311 z311 st311 hQ311
  subst l311 y311 z311
  obtain ⟨rfl, Nq311, K311, E311⟩ := hQ311
  have N311 := Fr.app N0 Nq311
  have KK312 : Keep h0 T311.heap [ta] := (Keep.refl _ _).trans K311 (allS (Or.inl (by simp)) all0)
  refine R2 st311 ?_
  show Rch p e below T311 (mkF m 6 #[vR ta, vR sb] []) _
  exact Rch.fin (Q := Q_siB Z ta sb va ct h0 n0) X311 (v := none) (fun _ => rfl) (BodyLoose.notSynchronized Bd) (fun fs hr => X311.returnOut hx Bd.returns (dq (dg dsw 4 rfl)) hr) ⟨rfl, N311, KK312, E311⟩ (by decide) (by decide)
theorem dts : dxs jdk_67_method_42_code [(0, .new 18, 3), (3, .dup, 1), (4, .aload_n 0, 1), (5, .invokespecial 137, 3), (8, .areturn, 1)] = true := by decide +kernel
theorem pn_sbStr : plainFor (⟨"java/lang/StringBuilder", "toString", "()Ljava/lang/String;"⟩ : MethodName) = true := plainFor_of_name (by first | (simp [plainName, overriddenIn]; done) | decide +kernel)
def Q_sbStr (Z : State) (sb va : Addr) (ct : Nat) (h0 : Heap) (n0 : Nat) (v : Option Value) (h : Heap) (L : List Loc) : Prop := ∃ t, v = some (.ref t) ∧ Fr n0 L ∧ Ext h0 h ∧ h0.size ≤ t ∧ Exa Z h t "java/lang/String"
set_option maxRecDepth 65536 in
set_option maxHeartbeats 40000000 in
theorem rm_sbStr (l : Launch) (Z : State) (a0 : Array Value) (hw : ∀ d ∈ tables_1, d.before a0 Z = true) (ws : List Jvm.Cond) (sb va : Addr) (ct : Nat) (h0 : Heap) (n0 : Nat) (Z0 : n0 ≤ h0.size) (B : Sb Z h0 sb va ct) (hct : ct ≤ 15) (CS : Cmp Z h0) :
    MetFree l mN56 (head1 (Jvm.Cond.code mN56 jdk_67_method_42_code 1 (some (.object "java/lang/String")) :: ws) rO41) (fun a U => a = #[(.ref sb)] ∧ Z.Warmed39 U.vm ∧ U.heap = h0) (fun _ _ _ _ _ => True) (fun _ U o U' => ∃ v L, o = .returned v ∧ Q_sbStr Z sb va ct h0 n0 v U'.heap L ∧ FrameEnd U o U' L rO41.cells rO41.slots) := by
  refine MetFree.of_bodySF pn_sbStr hisR ?_
  intro p e s m args below meth c s₁ Bd hml0 hP hK
  obtain ⟨rfl, hZ, hh⟩ := hP
  have hx := Bd.exec
  have hby := Bd.bytes
  have dq := @hb _ _ hby
  have hml : c.maxLocals = 1 := hml0
  have hown : s.vm.findClass "java/lang/StringBuilder" = some m.cls := findClass_of_methodNamed Bd.named
  have X0 : Stand p l e rO41 s m #[(.ref sb)] below meth c s₁ [] 0 0 := Stand.of_body Bd
  have e0 : s₁.heap = h0 := by rw [← hh, Bd.state]; rfl
  have N0 := Fr.nil n0
  show Rch p e below s₁ (entryFrame m #[(.ref sb)] 1) (fun U o => ∃ v L, o = .returned v ∧ Q_sbStr Z sb va ct h0 n0 v U.heap L ∧ FrameEnd s o U L rO41.cells rO41.slots)
  refine Rch.cast (ef_acInit m sb) ?_
  show Rch p e below s₁ (mkF m 0 #[vR sb] []) _
  obtain ⟨T313, h313, X313, e313, E313, A313, D313, -, st313⟩ := newO X0 hx hZ hown (wq hw 335 rfl) (wq hw 14 rfl) (wq hw 6 rfl) e0 (g := (mkF m 0 #[vR sb] [])) rfl (dq (dg dts 0 rfl)) (by decide) (by decide)
  obtain ⟨a313, g313⟩ : ∃ z, z = h0.size := ⟨_, rfl⟩
  rw [← g313] at A313 D313 st313
  have Ex314 : Ext h0 h313 := E313
  have le315 : h0.size ≤ a313 := Nat.le_of_eq g313.symm
  refine R0_ st313 ?_
  show Rch p e below T313 (mkF m 3 #[vR sb] [(.ref a313)]) _
  refine R1 (XS.dup X313.here hx rfl (dq (dg dts 1 rfl)) rfl rfl) ?_
  refine R1 (XS.aloadN X313.here hx rfl (dq (dg dts 2 rfl)) rfl rfl) ?_
  show Rch p e below T313 (mkF m 5 #[vR sb] [(.ref sb), (.ref a313), (.ref a313)]) _
  obtain ⟨_, _, ⟨T316, L316, k316, n316⟩, -, X316, ⟨Lc316, hQ316, l316, y316, z316⟩, st316⟩ := X313.specialBack hx (y := mN55) rfl hown (mw hZ hw 336 rfl) (mw hZ hw 337 rfl) (mw hZ hw 338 rfl) (by decide) (backOf (W := 1) (rm_siB l Z a0 hw [] a313 sb va ct h313 n0 (Nat.le_trans Z0 Ex314.1) (Nat.le_trans Z0 le315) A313 (D313 (Or.inr (wq hw 27 rfl)) (ty := (.array .byte)) (by decide)) (D313 (Or.inr (wq hw 29 rfl)) (ty := .byte) (by decide)) (B.ext Ex314) hct (CS.ext Ex314)) hZ (wq hw 338 rfl) (wq hw 6 rfl) (by decide) (by decide)) (g := (mkF m 5 #[vR sb] [(.ref sb), (.ref a313), (.ref a313)])) rfl (by rw [hml]; rfl) (Steps.refl _) (a := a313) (argsL := [(.ref sb)]) (rest := [(.ref a313)]) (lenOf pd_30 rfl) rfl (w0 rfl) (dq (dg dts 3 rfl)) (fun _ _ => ⟨rfl, e313, (by decide : 1 + 1 ≤ _), (by decide : 4 + 16 ≤ _)⟩)
  dsimp only [Pt.U, Pt.locs, Pt.cells, Pt.slots] at X316 l316 y316 z316 st316 hQ316
  subst l316 y316 z316
  obtain ⟨rfl, Nq316, K316, E316⟩ := hQ316
  have N316 := Fr.app N0 Nq316
  have Ex317 : Ext h0 T316.heap := extKeep Ex314 K316 (allS le315 all0)
  refine R2 st316 ?_
  show Rch p e below T316 (mkF m 8 #[vR sb] [(.ref a313)]) _
  exact Rch.fin (Q := Q_sbStr Z sb va ct h0 n0) X316 (v := some (.ref a313)) (fun h => by rw [Bd.returns] at h; cases h) (BodyLoose.notSynchronized Bd) (fun fs hr => retR X316 hx Bd.returns rfl rfl (dq (dg dts 4 rfl)) hr) ⟨a313, rfl, N316, Ex317, le315, E316⟩ (by decide) (by decide)
theorem dr : dxs jdk_30_method_1_code [(0, .aload_n 0, 1), (1, .invokespecial 1, 3), (4, .return_, 1)] = true := by decide +kernel
theorem pn_rec : plainFor (⟨"java/lang/Record", "<init>", "()V"⟩ : MethodName) = true := plainFor_of_name (by first | (simp [plainName, overriddenIn]; done) | decide +kernel)
def Q_rec (Z : State) (ta : Addr) (h0 : Heap) (n0 : Nat) (v : Option Value) (h : Heap) (L : List Loc) : Prop := v = none ∧ Fr n0 L ∧ h = h0
set_option maxRecDepth 65536 in
set_option maxHeartbeats 40000000 in
theorem rm_rec (l : Launch) (Z : State) (a0 : Array Value) (hw : ∀ d ∈ tables_1, d.before a0 Z = true) (ws : List Jvm.Cond) (ta : Addr) (h0 : Heap) (n0 : Nat) (Z0 : n0 ≤ h0.size) :
    MetFree l mN57 (head1 (Jvm.Cond.code mN57 jdk_30_method_1_code 1 none :: ws) rO0) (fun a U => a = #[(.ref ta)] ∧ Z.Warmed39 U.vm ∧ U.heap = h0) (fun _ _ _ _ _ => True) (fun _ U o U' => ∃ v L, o = .returned v ∧ Q_rec Z ta h0 n0 v U'.heap L ∧ FrameEnd U o U' L rO0.cells rO0.slots) := by
  refine MetFree.of_bodySF pn_rec hisR ?_
  intro p e s m args below meth c s₁ Bd hml0 hP hK
  obtain ⟨rfl, hZ, hh⟩ := hP
  have hx := Bd.exec
  have hby := Bd.bytes
  have dq := @hb _ _ hby
  have hml : c.maxLocals = 1 := hml0
  have hown : s.vm.findClass "java/lang/Record" = some m.cls := findClass_of_methodNamed Bd.named
  have X0 : Stand p l e rO0 s m #[(.ref ta)] below meth c s₁ [] 0 0 := Stand.of_body Bd
  have e0 : s₁.heap = h0 := by rw [← hh, Bd.state]; rfl
  have N0 := Fr.nil n0
  show Rch p e below s₁ (entryFrame m #[(.ref ta)] 1) (fun U o => ∃ v L, o = .returned v ∧ Q_rec Z ta h0 n0 v U.heap L ∧ FrameEnd s o U L rO0.cells rO0.slots)
  refine Rch.cast (ef_acInit m ta) ?_
  show Rch p e below s₁ (mkF m 0 #[vR ta] []) _
  refine R1 (XS.aloadN X0.here hx rfl (dq (dg dr 0 rfl)) rfl rfl) ?_
  show Rch p e below s₁ (mkF m 1 #[vR ta] [(.ref ta)]) _
  obtain ⟨T318, X318, e318, st318⟩ := initO X0 hx hZ hown (wq hw 97 rfl) (wq hw 24 rfl) (wq hw 25 rfl) e0 (g := (mkF m 1 #[vR ta] [(.ref ta)])) rfl (by rw [hml]; rfl) rfl (dq (dg dr 1 rfl)) (by decide) (W := 0) (w0 rfl) (by decide)
  refine R0_ st318 ?_
  show Rch p e below T318 (mkF m 4 #[vR ta] []) _
  exact Rch.fin (Q := Q_rec Z ta h0 n0) X318 (v := none) (fun _ => rfl) (BodyLoose.notSynchronized Bd) (fun fs hr => X318.returnOut hx Bd.returns (dq (dg dr 2 rfl)) hr) (by rw [e318]; exact ⟨rfl, N0, rfl⟩) (by decide) (by decide)
theorem dci : dxs prog_12_method_1_code [(0, .aload_n 0, 1), (1, .invokespecial 1, 3), (4, .aload_n 0, 1), (5, .aload_n 1, 1), (6, .putfield 7, 3), (9, .aload_n 0, 1), (10, .aload_n 2, 1), (11, .putfield 13, 3), (14, .return_, 1)] = true := by decide +kernel
theorem pn_chI : plainFor (⟨"com/example/ampersat/ampersat/index/MetaChains$Chain", "<init>", "(Ljava/util/List;Ljava/lang/String;)V"⟩ : MethodName) = true := plainFor_of_name (by first | (simp [plainName, overriddenIn]; done) | decide +kernel)
def Q_chI (Z : State) (ta tl tx : Addr) (h0 : Heap) (n0 : Nat) (v : Option Value) (h : Heap) (L : List Loc) : Prop := v = none ∧ Fr n0 L ∧ Keep h0 h [ta] ∧ Chn Z h ta tl tx
set_option maxRecDepth 65536 in
set_option maxHeartbeats 40000000 in
theorem rm_chI (l : Launch) (Z : State) (a0 : Array Value) (hw : ∀ d ∈ tables_1, d.before a0 Z = true) (ws : List Jvm.Cond) (ta tl tx : Addr) (h0 : Heap) (n0 : Nat) (Z0 : n0 ≤ h0.size) (hthis : n0 ≤ ta) (E1 : Exa Z h0 ta "com/example/ampersat/ampersat/index/MetaChains$Chain") (F1 : Fld Z h0 ta "com/example/ampersat/ampersat/index/MetaChains$Chain" "types" "Ljava/util/List;" .null) (F2 : Fld Z h0 ta "com/example/ampersat/ampersat/index/MetaChains$Chain" "text" "Ljava/lang/String;" .null) :
    MetFree l mN58 (head1 (Jvm.Cond.code mN58 prog_12_method_1_code 3 none :: ws) rO1) (fun a U => a = #[(.ref ta), (.ref tl), (.ref tx)] ∧ Z.Warmed39 U.vm ∧ U.heap = h0) (fun _ _ _ _ _ => True) (fun _ U o U' => ∃ v L, o = .returned v ∧ Q_chI Z ta tl tx h0 n0 v U'.heap L ∧ FrameEnd U o U' L rO1.cells rO1.slots) := by
  refine MetFree.of_bodySF pn_chI hisR ?_
  intro p e s m args below meth c s₁ Bd hml0 hP hK
  obtain ⟨rfl, hZ, hh⟩ := hP
  have hx := Bd.exec
  have hby := Bd.bytes
  have dq := @hb _ _ hby
  have hml : c.maxLocals = 3 := hml0
  have hown : s.vm.findClass "com/example/ampersat/ampersat/index/MetaChains$Chain" = some m.cls := findClass_of_methodNamed Bd.named
  have hnm := (name_of_methodNamed Bd.named Bd.method).1
  have X0 : Stand p l e rO1 s m #[(.ref ta), (.ref tl), (.ref tx)] below meth c s₁ [] 0 0 := Stand.of_body Bd
  have e0 : s₁.heap = h0 := by rw [← hh, Bd.state]; rfl
  have N0 := Fr.nil n0
  show Rch p e below s₁ (entryFrame m #[(.ref ta), (.ref tl), (.ref tx)] 3) (fun U o => ∃ v L, o = .returned v ∧ Q_chI Z ta tl tx h0 n0 v U.heap L ∧ FrameEnd s o U L rO1.cells rO1.slots)
  refine Rch.cast (ef_l12Init m ta tl tx) ?_
  show Rch p e below s₁ (mkF m 0 #[vR ta, vR tl, vR tx] []) _
  refine R1 (XS.aloadN X0.here hx rfl (dq (dg dci 0 rfl)) rfl rfl) ?_
  show Rch p e below s₁ (mkF m 1 #[vR ta, vR tl, vR tx] [(.ref ta)]) _
  obtain ⟨_, _, ⟨T319, L319, k319, n319⟩, -, X319, ⟨Lc319, hQ319, l319, y319, z319⟩, st319⟩ := X0.specialBack hx (y := mN57) rfl hown (mw hZ hw 92 rfl) (mw hZ hw 93 rfl) (mw hZ hw 96 rfl) (by decide) (backOf (W := 0) (rm_rec l Z a0 hw [] ta h0 n0 Z0) hZ (wq hw 96 rfl) (wq hw 95 rfl) (by decide) (by decide)) (g := (mkF m 1 #[vR ta, vR tl, vR tx] [(.ref ta)])) rfl (by rw [hml]; rfl) (Steps.refl _) (a := ta) (argsL := []) (rest := []) (lenOf pd_0 rfl) rfl (w0 rfl) (dq (dg dci 1 rfl)) (fun _ _ => ⟨rfl, e0, (by decide : 0 + 0 ≤ _), (by decide : 0 + 0 ≤ _)⟩)
  dsimp only [Pt.U, Pt.locs, Pt.cells, Pt.slots] at X319 l319 y319 z319 st319 hQ319
  subst l319 y319 z319
  obtain ⟨rfl, Nq319, e319⟩ := hQ319
  have N319 := Fr.app N0 Nq319
  refine R2 st319 ?_
  show Rch p e below T319 (mkF m 4 #[vR ta, vR tl, vR tx] []) _
  refine R1 (XS.aloadN X319.here hx rfl (dq (dg dci 2 rfl)) rfl rfl) ?_
  refine R1 (XS.aloadN X319.here hx rfl (dq (dg dci 3 rfl)) rfl rfl) ?_
  show Rch p e below T319 (mkF m 6 #[vR ta, vR tl, vR tx] [(.ref tl), (.ref ta)]) _
  have hsl : Jvm.RoadKit.slotOf Z "com/example/ampersat/ampersat/index/MetaChains$Chain" "types" "Ljava/util/List;" ≠ Jvm.RoadKit.slotOf Z "com/example/ampersat/ampersat/index/MetaChains$Chain" "text" "Ljava/lang/String;" := slot_ne (C := "com/example/ampersat/ampersat/index/MetaChains$Chain") (Or.inr (wq hw 99 rfl)) (Or.inr (wq hw 101 rfl)) (by decide) (t := (.object "java/util/List")) (t' := (.object "java/lang/String")) (by decide) (by decide)
  obtain ⟨T320, h320, X320, e320, W320, st320⟩ := putF X319 hx hZ hown (host := "") (Or.inl (wq hw 98 rfl)) Via.refl e319 F1 E1 (Or.inr ⟨(wq hw 99 rfl), rfl, hnm⟩) (wq hw 87 rfl) (ty := (.object "java/util/List")) (by decide) rfl rfl (g := (mkF m 6 #[vR ta, vR tl, vR tx] [(.ref tl), (.ref ta)])) rfl rfl (dq (dg dci 4 rfl))
  have KK321 : Keep h0 h320 [ta] := (Keep.refl _ _).wr W320 (Or.inl (by simp))
  have N320 := Fr.snoc X320 N319 hthis
  refine R0_ st320 ?_
  show Rch p e below T320 (mkF m 9 #[vR ta, vR tl, vR tx] []) _
  refine R1 (XS.aloadN X320.here hx rfl (dq (dg dci 5 rfl)) rfl rfl) ?_
  refine R1 (XS.aloadN X320.here hx rfl (dq (dg dci 6 rfl)) rfl rfl) ?_
  show Rch p e below T320 (mkF m 11 #[vR ta, vR tl, vR tx] [(.ref tx), (.ref ta)]) _
  obtain ⟨T322, h322, X322, e322, W322, st322⟩ := putF X320 hx hZ hown (host := "") (Or.inl (wq hw 100 rfl)) Via.refl e320 (F2.other W320 (Or.inr (Ne.symm hsl))) (E1.wr W320) (Or.inr ⟨(wq hw 101 rfl), rfl, hnm⟩) (wq hw 87 rfl) (ty := (.object "java/lang/String")) (by decide) rfl rfl (g := (mkF m 11 #[vR ta, vR tl, vR tx] [(.ref tx), (.ref ta)])) rfl rfl (dq (dg dci 7 rfl))
  have KK323 : Keep h0 h322 [ta] := KK321.wr W322 (Or.inl (by simp))
  have N322 := Fr.snoc X322 N320 hthis
  refine R0_ st322 ?_
  show Rch p e below T322 (mkF m 14 #[vR ta, vR tl, vR tx] []) _
  exact Rch.fin (Q := Q_chI Z ta tl tx h0 n0) X322 (v := none) (fun _ => rfl) (BodyLoose.notSynchronized Bd) (fun fs hr => X322.returnOut hx Bd.returns (dq (dg dci 8 rfl)) hr) (by rw [e322]; exact ⟨rfl, N322, KK323, (E1.wr W320).wr W322, (F1.same W320).other W322 (Or.inr hsl), (F2.other W320 (Or.inr (Ne.symm hsl))).same W322⟩) (by decide) (by decide)
theorem dty : dxs prog_12_method_9_code [(0, .aload_n 0, 1), (1, .getfield 7, 3), (4, .areturn, 1)] = true := by decide +kernel
theorem pn_typ : plainFor (⟨"com/example/ampersat/ampersat/index/MetaChains$Chain", "types", "()Ljava/util/List;"⟩ : MethodName) = true := plainFor_of_name (by first | (simp [plainName, overriddenIn]; done) | decide +kernel)
def Q_typ (Z : State) (ta tl tx : Addr) (h0 : Heap) (n0 : Nat) (v : Option Value) (h : Heap) (L : List Loc) : Prop := v = some (.ref tl) ∧ Fr n0 L ∧ h = h0
set_option maxRecDepth 65536 in
set_option maxHeartbeats 40000000 in
theorem rm_typ (l : Launch) (Z : State) (a0 : Array Value) (hw : ∀ d ∈ tables_1, d.before a0 Z = true) (ws : List Jvm.Cond) (ta tl tx : Addr) (h0 : Heap) (n0 : Nat) (Z0 : n0 ≤ h0.size) (HC : Chn Z h0 ta tl tx) :
    MetFree l mN59 (head1 (Jvm.Cond.code mN59 prog_12_method_9_code 1 (some (.object "java/util/List")) :: ws) rO3) (fun a U => a = #[(.ref ta)] ∧ Z.Warmed39 U.vm ∧ U.heap = h0) (fun _ _ _ _ _ => True) (fun _ U o U' => ∃ v L, o = .returned v ∧ Q_typ Z ta tl tx h0 n0 v U'.heap L ∧ FrameEnd U o U' L rO3.cells rO3.slots) := by
  refine MetFree.of_bodySF pn_typ hisR ?_
  intro p e s m args below meth c s₁ Bd hml0 hP hK
  obtain ⟨rfl, hZ, hh⟩ := hP
  have hx := Bd.exec
  have hby := Bd.bytes
  have dq := @hb _ _ hby
  have hml : c.maxLocals = 1 := hml0
  have hown : s.vm.findClass "com/example/ampersat/ampersat/index/MetaChains$Chain" = some m.cls := findClass_of_methodNamed Bd.named
  have X0 : Stand p l e rO3 s m #[(.ref ta)] below meth c s₁ [] 0 0 := Stand.of_body Bd
  have e0 : s₁.heap = h0 := by rw [← hh, Bd.state]; rfl
  have N0 := Fr.nil n0
  show Rch p e below s₁ (entryFrame m #[(.ref ta)] 1) (fun U o => ∃ v L, o = .returned v ∧ Q_typ Z ta tl tx h0 n0 v U.heap L ∧ FrameEnd s o U L rO3.cells rO3.slots)
  refine Rch.cast (ef_acInit m ta) ?_
  show Rch p e below s₁ (mkF m 0 #[vR ta] []) _
  refine R1 (XS.aloadN X0.here hx rfl (dq (dg dty 0 rfl)) rfl rfl) ?_
  show Rch p e below s₁ (mkF m 1 #[vR ta] [(.ref ta)]) _
  obtain ⟨T324, X324, e324, st324⟩ := getF X0 hx hZ hown (host := "") (Or.inl (wq hw 98 rfl)) Via.refl e0 HC.2.1 (g := (mkF m 1 #[vR ta] [(.ref ta)])) rfl rfl (dq (dg dty 1 rfl))
  refine R0_ st324 ?_
  show Rch p e below T324 (mkF m 4 #[vR ta] [(.ref tl)]) _
  exact Rch.fin (Q := Q_typ Z ta tl tx h0 n0) X324 (v := some (.ref tl)) (fun h => by rw [Bd.returns] at h; cases h) (BodyLoose.notSynchronized Bd) (fun fs hr => retR X324 hx Bd.returns rfl rfl (dq (dg dty 2 rfl)) hr) (by rw [e324]; exact ⟨rfl, N0, rfl⟩) (by decide) (by decide)
theorem dtx : dxs prog_12_method_10_code [(0, .aload_n 0, 1), (1, .getfield 13, 3), (4, .areturn, 1)] = true := by decide +kernel
theorem pn_txt : plainFor (⟨"com/example/ampersat/ampersat/index/MetaChains$Chain", "text", "()Ljava/lang/String;"⟩ : MethodName) = true := plainFor_of_name (by first | (simp [plainName, overriddenIn]; done) | decide +kernel)
def Q_txt (Z : State) (ta tl tx : Addr) (h0 : Heap) (n0 : Nat) (v : Option Value) (h : Heap) (L : List Loc) : Prop := v = some (.ref tx) ∧ Fr n0 L ∧ h = h0
set_option maxRecDepth 65536 in
set_option maxHeartbeats 40000000 in
theorem rm_txt (l : Launch) (Z : State) (a0 : Array Value) (hw : ∀ d ∈ tables_1, d.before a0 Z = true) (ws : List Jvm.Cond) (ta tl tx : Addr) (h0 : Heap) (n0 : Nat) (Z0 : n0 ≤ h0.size) (HC : Chn Z h0 ta tl tx) :
    MetFree l mN60 (head1 (Jvm.Cond.code mN60 prog_12_method_10_code 1 (some (.object "java/lang/String")) :: ws) rO3) (fun a U => a = #[(.ref ta)] ∧ Z.Warmed39 U.vm ∧ U.heap = h0) (fun _ _ _ _ _ => True) (fun _ U o U' => ∃ v L, o = .returned v ∧ Q_txt Z ta tl tx h0 n0 v U'.heap L ∧ FrameEnd U o U' L rO3.cells rO3.slots) := by
  refine MetFree.of_bodySF pn_txt hisR ?_
  intro p e s m args below meth c s₁ Bd hml0 hP hK
  obtain ⟨rfl, hZ, hh⟩ := hP
  have hx := Bd.exec
  have hby := Bd.bytes
  have dq := @hb _ _ hby
  have hml : c.maxLocals = 1 := hml0
  have hown : s.vm.findClass "com/example/ampersat/ampersat/index/MetaChains$Chain" = some m.cls := findClass_of_methodNamed Bd.named
  have X0 : Stand p l e rO3 s m #[(.ref ta)] below meth c s₁ [] 0 0 := Stand.of_body Bd
  have e0 : s₁.heap = h0 := by rw [← hh, Bd.state]; rfl
  have N0 := Fr.nil n0
  show Rch p e below s₁ (entryFrame m #[(.ref ta)] 1) (fun U o => ∃ v L, o = .returned v ∧ Q_txt Z ta tl tx h0 n0 v U.heap L ∧ FrameEnd s o U L rO3.cells rO3.slots)
  refine Rch.cast (ef_acInit m ta) ?_
  show Rch p e below s₁ (mkF m 0 #[vR ta] []) _
  refine R1 (XS.aloadN X0.here hx rfl (dq (dg dtx 0 rfl)) rfl rfl) ?_
  show Rch p e below s₁ (mkF m 1 #[vR ta] [(.ref ta)]) _
  obtain ⟨T325, X325, e325, st325⟩ := getF X0 hx hZ hown (host := "") (Or.inl (wq hw 100 rfl)) Via.refl e0 HC.2.2 (g := (mkF m 1 #[vR ta] [(.ref ta)])) rfl rfl (dq (dg dtx 1 rfl))
  refine R0_ st325 ?_
  show Rch p e below T325 (mkF m 4 #[vR ta] [(.ref tx)]) _
  exact Rch.fin (Q := Q_txt Z ta tl tx h0 n0) X325 (v := some (.ref tx)) (fun h => by rw [Bd.returns] at h; cases h) (BodyLoose.notSynchronized Bd) (fun fs hr => retR X325 hx Bd.returns rfl rfl (dq (dg dtx 2 rfl)) hr) (by rw [e325]; exact ⟨rfl, N0, rfl⟩) (by decide) (by decide)
theorem dts2 : dxs jdk_44_method_3_code [(0, .aload_n 0, 1), (1, .getfield 24, 3), (4, .getstatic 19, 3), (7, .if_acmp .eq 7, 3), (10, .iconst 2, 1), (11, .goto 4, 3), (15, .ireturn, 1)] = true := by decide +kernel
theorem pn_l12S : plainFor (⟨"java/util/ImmutableCollections$List12", "size", "()I"⟩ : MethodName) = true := plainFor_of_name (by first | (simp [plainName, overriddenIn]; done) | decide +kernel)
def Q_l12S (Z : State) (ta x y em : Addr) (h0 : Heap) (n0 : Nat) (v : Option Value) (h : Heap) (L : List Loc) : Prop := v = some (.int 2) ∧ Fr n0 L ∧ h = h0
set_option maxRecDepth 65536 in
set_option maxHeartbeats 40000000 in
theorem rm_l12S (l : Launch) (Z : State) (a0 : Array Value) (hw : ∀ d ∈ tables_1, d.before a0 Z = true) (ws : List Jvm.Cond) (ta x y em : Addr) (h0 : Heap) (n0 : Nat) (Z0 : n0 ≤ h0.size) (A : L12p Z h0 ta x y) (EMS : Sta Z h0 "java/util/ImmutableCollections" "EMPTY" "Ljava/lang/Object;" (.ref em)) (EME : Exa Z h0 em "java/lang/Object") (EY : Exa Z h0 y "java/lang/String") :
    MetFree l mN61 (head1 (Jvm.Cond.code mN61 jdk_44_method_3_code 1 (some .int) :: ws) rO3) (fun a U => a = #[(.ref ta)] ∧ Z.Warmed39 U.vm ∧ U.heap = h0) (fun _ _ _ _ _ => True) (fun _ U o U' => ∃ v L, o = .returned v ∧ Q_l12S Z ta x y em h0 n0 v U'.heap L ∧ FrameEnd U o U' L rO3.cells rO3.slots) := by
  refine MetFree.of_bodySF pn_l12S hisR ?_
  intro p e s m args below meth c s₁ Bd hml0 hP hK
  obtain ⟨rfl, hZ, hh⟩ := hP
  have hx := Bd.exec
  have hby := Bd.bytes
  have dq := @hb _ _ hby
  have hml : c.maxLocals = 1 := hml0
  have hown : s.vm.findClass "java/util/ImmutableCollections$List12" = some m.cls := findClass_of_methodNamed Bd.named
  have X0 : Stand p l e rO3 s m #[(.ref ta)] below meth c s₁ [] 0 0 := Stand.of_body Bd
  have e0 : s₁.heap = h0 := by rw [← hh, Bd.state]; rfl
  have N0 := Fr.nil n0
  show Rch p e below s₁ (entryFrame m #[(.ref ta)] 1) (fun U o => ∃ v L, o = .returned v ∧ Q_l12S Z ta x y em h0 n0 v U.heap L ∧ FrameEnd s o U L rO3.cells rO3.slots)
  refine Rch.cast (ef_acInit m ta) ?_
  show Rch p e below s₁ (mkF m 0 #[vR ta] []) _
  refine R1 (XS.aloadN X0.here hx rfl (dq (dg dts2 0 rfl)) rfl rfl) ?_
  show Rch p e below s₁ (mkF m 1 #[vR ta] [(.ref ta)]) _
  obtain ⟨T326, X326, e326, st326⟩ := getF X0 hx hZ hown (host := "") (Or.inl (wq hw 251 rfl)) Via.refl e0 A.2.2 (g := (mkF m 1 #[vR ta] [(.ref ta)])) rfl rfl (dq (dg dts2 1 rfl))
  refine R0_ st326 ?_
  show Rch p e below T326 (mkF m 4 #[vR ta] [(.ref y)]) _
  obtain ⟨T327, X327, e327, st327⟩ := getS2 X326 hx hZ hown (host := "java/util/ImmutableCollections") (Or.inr (wq hw 372 rfl)) Via.refl e326 EMS (g := (mkF m 4 #[vR ta] [(.ref y)])) rfl (dq (dg dts2 2 rfl))
  refine R0_ st327 ?_
  show Rch p e below T327 (mkF m 7 #[vR ta] [(.ref em), (.ref y)]) _
  refine R1 (XT.acmpNo X327.here hx rfl (dq (dg dts2 3 rfl)) rfl rfl rfl (acY (EY.ne EME (by decide)))) ?_
  refine R1 (XS.iconst X327.here hx rfl (dq (dg dts2 4 rfl)) ) ?_
  refine R1 (XS.goto X327.here hx rfl (pc0 := 11) (pc' := 15) rfl (dq (dg dts2 5 rfl)) (by decide) (by decide)) ?_
  show Rch p e below T327 (mkF m 15 #[vR ta] [(.int (2 : Int32))]) _
  exact Rch.fin (Q := Q_l12S Z ta x y em h0 n0) X327 (v := some (.int (2 : Int32))) (fun h => by rw [Bd.returns] at h; cases h) (BodyLoose.notSynchronized Bd) (fun fs hr => retI X327 hx Bd.returns (dq (dg dts2 6 rfl)) hr) (by rw [e327]; exact ⟨rfl, N0, rfl⟩) (by decide) (by decide)
theorem dtg2 : dxs jdk_44_method_5_code [(0, .iload_n 1, 1), (1, .ifCond .ne 8, 3), (9, .iload_n 1, 1), (10, .iconst 1, 1), (11, .if_icmp .ne 18, 3), (14, .aload_n 0, 1), (15, .getfield 24, 3), (18, .getstatic 19, 3), (21, .if_acmp .eq 8, 3), (24, .aload_n 0, 1), (25, .getfield 24, 3), (28, .areturn, 1)] = true := by decide +kernel
theorem pn_l12G : plainFor (⟨"java/util/ImmutableCollections$List12", "get", "(I)Ljava/lang/Object;"⟩ : MethodName) = true := plainFor_of_name (by first | (simp [plainName, overriddenIn]; done) | decide +kernel)
def Q_l12G (Z : State) (ta x y em : Addr) (h0 : Heap) (n0 : Nat) (v : Option Value) (h : Heap) (L : List Loc) : Prop := v = some (.ref y) ∧ Fr n0 L ∧ h = h0
set_option maxRecDepth 65536 in
set_option maxHeartbeats 40000000 in
theorem rm_l12G (l : Launch) (Z : State) (a0 : Array Value) (hw : ∀ d ∈ tables_1, d.before a0 Z = true) (ws : List Jvm.Cond) (ta x y em : Addr) (h0 : Heap) (n0 : Nat) (Z0 : n0 ≤ h0.size) (A : L12p Z h0 ta x y) (EMS : Sta Z h0 "java/util/ImmutableCollections" "EMPTY" "Ljava/lang/Object;" (.ref em)) (EME : Exa Z h0 em "java/lang/Object") (EY : Exa Z h0 y "java/lang/String") :
    MetFree l mN62 (head1 (Jvm.Cond.code mN62 jdk_44_method_5_code 2 (some (.object "java/lang/Object")) :: ws) rO3) (fun a U => a = #[(.ref ta), (.int (1 : Int32))] ∧ Z.Warmed39 U.vm ∧ U.heap = h0) (fun _ _ _ _ _ => True) (fun _ U o U' => ∃ v L, o = .returned v ∧ Q_l12G Z ta x y em h0 n0 v U'.heap L ∧ FrameEnd U o U' L rO3.cells rO3.slots) := by
  refine MetFree.of_bodySF pn_l12G hisR ?_
  intro p e s m args below meth c s₁ Bd hml0 hP hK
  obtain ⟨rfl, hZ, hh⟩ := hP
  have hx := Bd.exec
  have hby := Bd.bytes
  have dq := @hb _ _ hby
  have hml : c.maxLocals = 2 := hml0
  have hown : s.vm.findClass "java/util/ImmutableCollections$List12" = some m.cls := findClass_of_methodNamed Bd.named
  have X0 : Stand p l e rO3 s m #[(.ref ta), (.int (1 : Int32))] below meth c s₁ [] 0 0 := Stand.of_body Bd
  have e0 : s₁.heap = h0 := by rw [← hh, Bd.state]; rfl
  have N0 := Fr.nil n0
  show Rch p e below s₁ (entryFrame m #[(.ref ta), (.int (1 : Int32))] 2) (fun U o => ∃ v L, o = .returned v ∧ Q_l12G Z ta x y em h0 n0 v U.heap L ∧ FrameEnd s o U L rO3.cells rO3.slots)
  refine Rch.cast (ef_alElem m ta (1 : Int32)) ?_
  show Rch p e below s₁ (mkF m 0 #[vR ta, vI (1 : Int32)] []) _
  refine R1 (XS.iloadN X0.here hx rfl (dq (dg dtg2 0 rfl)) rfl) ?_
  refine R1 (XS.ifYes X0.here hx rfl (pc0 := 1) (pc' := 9) rfl (dq (dg dtg2 1 rfl)) rfl (by decide : ifCond.holds .ne (1 : Int32) = true) (by decide) (by decide)) ?_
  refine R1 (XS.iloadN X0.here hx rfl (dq (dg dtg2 2 rfl)) rfl) ?_
  refine R1 (XS.iconst X0.here hx rfl (dq (dg dtg2 3 rfl)) ) ?_
  show Rch p e below s₁ (mkF m 11 #[vR ta, vI (1 : Int32)] [(.int (1 : Int32)), (.int (1 : Int32))]) _
  refine R1 (XS.icmpNo X0.here hx rfl (dq (dg dtg2 4 rfl)) rfl (by decide : if_icmp.holds .ne (1 : Int32) (1 : Int32) = false)) ?_
  refine R1 (XS.aloadN X0.here hx rfl (dq (dg dtg2 5 rfl)) rfl rfl) ?_
  show Rch p e below s₁ (mkF m 15 #[vR ta, vI (1 : Int32)] [(.ref ta)]) _
  obtain ⟨T328, X328, e328, st328⟩ := getF X0 hx hZ hown (host := "") (Or.inl (wq hw 251 rfl)) Via.refl e0 A.2.2 (g := (mkF m 15 #[vR ta, vI (1 : Int32)] [(.ref ta)])) rfl rfl (dq (dg dtg2 6 rfl))
  refine R0_ st328 ?_
  show Rch p e below T328 (mkF m 18 #[vR ta, vI (1 : Int32)] [(.ref y)]) _
  obtain ⟨T329, X329, e329, st329⟩ := getS2 X328 hx hZ hown (host := "java/util/ImmutableCollections") (Or.inr (wq hw 372 rfl)) Via.refl e328 EMS (g := (mkF m 18 #[vR ta, vI (1 : Int32)] [(.ref y)])) rfl (dq (dg dtg2 7 rfl))
  refine R0_ st329 ?_
  show Rch p e below T329 (mkF m 21 #[vR ta, vI (1 : Int32)] [(.ref em), (.ref y)]) _
  refine R1 (XT.acmpNo X329.here hx rfl (dq (dg dtg2 8 rfl)) rfl rfl rfl (acY (EY.ne EME (by decide)))) ?_
  refine R1 (XS.aloadN X329.here hx rfl (dq (dg dtg2 9 rfl)) rfl rfl) ?_
  show Rch p e below T329 (mkF m 25 #[vR ta, vI (1 : Int32)] [(.ref ta)]) _
  obtain ⟨T330, X330, e330, st330⟩ := getF X329 hx hZ hown (host := "") (Or.inl (wq hw 251 rfl)) Via.refl e329 A.2.2 (g := (mkF m 25 #[vR ta, vI (1 : Int32)] [(.ref ta)])) rfl rfl (dq (dg dtg2 10 rfl))
  refine R0_ st330 ?_
  show Rch p e below T330 (mkF m 28 #[vR ta, vI (1 : Int32)] [(.ref y)]) _
  exact Rch.fin (Q := Q_l12G Z ta x y em h0 n0) X330 (v := some (.ref y)) (fun h => by rw [Bd.returns] at h; cases h) (BodyLoose.notSynchronized Bd) (fun fs hr => retR X330 hx Bd.returns rfl rfl (dq (dg dtg2 11 rfl)) hr) (by rw [e330]; exact ⟨rfl, N0, rfl⟩) (by decide) (by decide)
theorem dns : dxs jdk_45_method_3_code [(0, .aload_n 0, 1), (1, .getfield 7, 3), (4, .arraylength, 1), (5, .ireturn, 1)] = true := by decide +kernel
theorem pn_lnS : plainFor (⟨"java/util/ImmutableCollections$ListN", "size", "()I"⟩ : MethodName) = true := plainFor_of_name (by first | (simp [plainName, overriddenIn]; done) | decide +kernel)
def Q_lnS (Z : State) (ta : Addr) (n : Int32) (vs : List Value) (h0 : Heap) (n0 : Nat) (v : Option Value) (h : Heap) (L : List Loc) : Prop := v = some (.int n) ∧ Fr n0 L ∧ h = h0
set_option maxRecDepth 65536 in
set_option maxHeartbeats 40000000 in
theorem rm_lnS (l : Launch) (Z : State) (a0 : Array Value) (hw : ∀ d ∈ tables_1, d.before a0 Z = true) (ws : List Jvm.Cond) (ta : Addr) (n : Int32) (vs : List Value) (h0 : Heap) (n0 : Nat) (Z0 : n0 ≤ h0.size) (A : LNp Z h0 ta n vs) :
    MetFree l mN63 (head1 (Jvm.Cond.code mN63 jdk_45_method_3_code 1 (some .int) :: ws) rO3) (fun a U => a = #[(.ref ta)] ∧ Z.Warmed39 U.vm ∧ U.heap = h0) (fun _ _ _ _ _ => True) (fun _ U o U' => ∃ v L, o = .returned v ∧ Q_lnS Z ta n vs h0 n0 v U'.heap L ∧ FrameEnd U o U' L rO3.cells rO3.slots) := by
  refine MetFree.of_bodySF pn_lnS hisR ?_
  intro p e s m args below meth c s₁ Bd hml0 hP hK
  obtain ⟨rfl, hZ, hh⟩ := hP
  have hx := Bd.exec
  have hby := Bd.bytes
  have dq := @hb _ _ hby
  have hml : c.maxLocals = 1 := hml0
  have hown : s.vm.findClass "java/util/ImmutableCollections$ListN" = some m.cls := findClass_of_methodNamed Bd.named
  have X0 : Stand p l e rO3 s m #[(.ref ta)] below meth c s₁ [] 0 0 := Stand.of_body Bd
  have e0 : s₁.heap = h0 := by rw [← hh, Bd.state]; rfl
  have N0 := Fr.nil n0
  show Rch p e below s₁ (entryFrame m #[(.ref ta)] 1) (fun U o => ∃ v L, o = .returned v ∧ Q_lnS Z ta n vs h0 n0 v U.heap L ∧ FrameEnd s o U L rO3.cells rO3.slots)
  refine Rch.cast (ef_acInit m ta) ?_
  show Rch p e below s₁ (mkF m 0 #[vR ta] []) _
  obtain ⟨E1, eb, F1, O1⟩ := id A
  refine R1 (XS.aloadN X0.here hx rfl (dq (dg dns 0 rfl)) rfl rfl) ?_
  show Rch p e below s₁ (mkF m 1 #[vR ta] [(.ref ta)]) _
  obtain ⟨T331, X331, e331, st331⟩ := getF X0 hx hZ hown (host := "") (Or.inl (wq hw 406 rfl)) Via.refl e0 F1 (g := (mkF m 1 #[vR ta] [(.ref ta)])) rfl rfl (dq (dg dns 1 rfl))
  refine R0_ st331 ?_
  show Rch p e below T331 (mkF m 4 #[vR ta] [(.ref eb)]) _
  obtain ⟨kk332, M332⟩ := (O1).arh
  refine R0_ (alenA X331 hx hZ e331 M332 (g := (mkF m 4 #[vR ta] [(.ref eb)])) rfl rfl (dq (dg dns 2 rfl))) ?_
  show Rch p e below T331 (mkF m 5 #[vR ta] [(.int n)]) _
  exact Rch.fin (Q := Q_lnS Z ta n vs h0 n0) X331 (v := some (.int n)) (fun h => by rw [Bd.returns] at h; cases h) (BodyLoose.notSynchronized Bd) (fun fs hr => retI X331 hx Bd.returns (dq (dg dns 3 rfl)) hr) (by rw [e331]; exact ⟨rfl, N0, rfl⟩) (by decide) (by decide)
theorem dng : dxs jdk_45_method_4_code [(0, .aload_n 0, 1), (1, .getfield 7, 3), (4, .iload_n 1, 1), (5, .aaload, 1), (6, .areturn, 1)] = true := by decide +kernel
theorem pn_lnG : plainFor (⟨"java/util/ImmutableCollections$ListN", "get", "(I)Ljava/lang/Object;"⟩ : MethodName) = true := plainFor_of_name (by first | (simp [plainName, overriddenIn]; done) | decide +kernel)
def Q_lnG (Z : State) (ta : Addr) (n : Int32) (vs : List Value) (i : Int32) (y : Addr) (h0 : Heap) (n0 : Nat) (v : Option Value) (h : Heap) (L : List Loc) : Prop := v = some (.ref y) ∧ Fr n0 L ∧ h = h0
set_option maxRecDepth 65536 in
set_option maxHeartbeats 40000000 in
theorem rm_lnG (l : Launch) (Z : State) (a0 : Array Value) (hw : ∀ d ∈ tables_1, d.before a0 Z = true) (ws : List Jvm.Cond) (ta : Addr) (n : Int32) (vs : List Value) (i : Int32) (y : Addr) (h0 : Heap) (n0 : Nat) (Z0 : n0 ≤ h0.size) (A : LNp Z h0 ta n vs) (hi : ¬ i < 0 ∧ i < n) (hv : vs.getD i.toNatClampNeg .null = .ref y) :
    MetFree l mN64 (head1 (Jvm.Cond.code mN64 jdk_45_method_4_code 2 (some (.object "java/lang/Object")) :: ws) rO3) (fun a U => a = #[(.ref ta), (.int i)] ∧ Z.Warmed39 U.vm ∧ U.heap = h0) (fun _ _ _ _ _ => True) (fun _ U o U' => ∃ v L, o = .returned v ∧ Q_lnG Z ta n vs i y h0 n0 v U'.heap L ∧ FrameEnd U o U' L rO3.cells rO3.slots) := by
  refine MetFree.of_bodySF pn_lnG hisR ?_
  intro p e s m args below meth c s₁ Bd hml0 hP hK
  obtain ⟨rfl, hZ, hh⟩ := hP
  have hx := Bd.exec
  have hby := Bd.bytes
  have dq := @hb _ _ hby
  have hml : c.maxLocals = 2 := hml0
  have hown : s.vm.findClass "java/util/ImmutableCollections$ListN" = some m.cls := findClass_of_methodNamed Bd.named
  have X0 : Stand p l e rO3 s m #[(.ref ta), (.int i)] below meth c s₁ [] 0 0 := Stand.of_body Bd
  have e0 : s₁.heap = h0 := by rw [← hh, Bd.state]; rfl
  have N0 := Fr.nil n0
  show Rch p e below s₁ (entryFrame m #[(.ref ta), (.int i)] 2) (fun U o => ∃ v L, o = .returned v ∧ Q_lnG Z ta n vs i y h0 n0 v U.heap L ∧ FrameEnd s o U L rO3.cells rO3.slots)
  refine Rch.cast (ef_alElem m ta i) ?_
  show Rch p e below s₁ (mkF m 0 #[vR ta, vI i] []) _
  obtain ⟨E1, eb, F1, O1⟩ := id A
  refine R1 (XS.aloadN X0.here hx rfl (dq (dg dng 0 rfl)) rfl rfl) ?_
  show Rch p e below s₁ (mkF m 1 #[vR ta, vI i] [(.ref ta)]) _
  obtain ⟨T333, X333, e333, st333⟩ := getF X0 hx hZ hown (host := "") (Or.inl (wq hw 406 rfl)) Via.refl e0 F1 (g := (mkF m 1 #[vR ta, vI i] [(.ref ta)])) rfl rfl (dq (dg dng 1 rfl))
  refine R0_ st333 ?_
  show Rch p e below T333 (mkF m 4 #[vR ta, vI i] [(.ref eb)]) _
  refine R1 (XS.iloadN X333.here hx rfl (dq (dg dng 2 rfl)) rfl) ?_
  show Rch p e below T333 (mkF m 5 #[vR ta, vI i] [(.int i), (.ref eb)]) _
  obtain ⟨kk334, M334⟩ := (O1).arh
  refine R0_ (aalA X333 hx hZ e333 M334 rfl hi (v := (.ref y)) hv (g := (mkF m 5 #[vR ta, vI i] [(.int i), (.ref eb)])) rfl rfl (dq (dg dng 3 rfl))) ?_
  show Rch p e below T333 (mkF m 6 #[vR ta, vI i] [(.ref y)]) _
  exact Rch.fin (Q := Q_lnG Z ta n vs i y h0 n0) X333 (v := some (.ref y)) (fun h => by rw [Bd.returns] at h; cases h) (BodyLoose.notSynchronized Bd) (fun fs hr => retR X333 hx Bd.returns rfl rfl (dq (dg dng 4 rfl)) hr) (by rw [e333]; exact ⟨rfl, N0, rfl⟩) (by decide) (by decide)
theorem dla : dxs prog_12_method_4_code [(0, .aload_n 0, 1), (1, .getfield 7, 3), (4, .aload_n 0, 1), (5, .getfield 7, 3), (8, .invokeinterface 31 1, 5), (13, .iconst 1, 1), (14, .isub, 1), (15, .invokeinterface 66 2, 5), (20, .checkcast 70, 3), (23, .areturn, 1)] = true := by decide +kernel
theorem pn_lastA : plainFor (⟨"com/example/ampersat/ampersat/index/MetaChains$Chain", "last", "()Ljava/lang/String;"⟩ : MethodName) = true := plainFor_of_name (by first | (simp [plainName, overriddenIn]; done) | decide +kernel)
def Q_lastA (Z : State) (ta tl tx ea y : Addr) (z n : Int32) (vs : List Value) (h0 : Heap) (n0 : Nat) (v : Option Value) (h : Heap) (L : List Loc) : Prop := v = some (.ref y) ∧ Fr n0 L ∧ h = h0
set_option maxRecDepth 65536 in
set_option maxHeartbeats 40000000 in
theorem rm_lastA (l : Launch) (Z : State) (a0 : Array Value) (hw : ∀ d ∈ tables_1, d.before a0 Z = true) (ws : List Jvm.Cond) (ta tl tx ea y : Addr) (z n : Int32) (vs : List Value) (h0 : Heap) (n0 : Nat) (Z0 : n0 ≤ h0.size) (HC : Chn Z h0 ta tl tx) (A : Al Z h0 tl ea z n vs) (hi : ¬ (n - (1 : Int32)) < 0 ∧ (n - (1 : Int32)) < z) (hv : vs.getD (n - (1 : Int32)).toNatClampNeg .null = .ref y) (hin : (n - (1 : Int32)) < n) (EY : Exa Z h0 y "java/lang/String") :
    MetFree l mN65 (head1 (Jvm.Cond.code mN65 prog_12_method_4_code 1 (some (.object "java/lang/String")) :: ws) rO42) (fun a U => a = #[(.ref ta)] ∧ Z.Warmed39 U.vm ∧ U.heap = h0) (fun _ _ _ _ _ => True) (fun _ U o U' => ∃ v L, o = .returned v ∧ Q_lastA Z ta tl tx ea y z n vs h0 n0 v U'.heap L ∧ FrameEnd U o U' L rO42.cells rO42.slots) := by
  refine MetFree.of_bodySF pn_lastA hisR ?_
  intro p e s m args below meth c s₁ Bd hml0 hP hK
  obtain ⟨rfl, hZ, hh⟩ := hP
  have hx := Bd.exec
  have hby := Bd.bytes
  have dq := @hb _ _ hby
  have hml : c.maxLocals = 1 := hml0
  have hown : s.vm.findClass "com/example/ampersat/ampersat/index/MetaChains$Chain" = some m.cls := findClass_of_methodNamed Bd.named
  have X0 : Stand p l e rO42 s m #[(.ref ta)] below meth c s₁ [] 0 0 := Stand.of_body Bd
  have e0 : s₁.heap = h0 := by rw [← hh, Bd.state]; rfl
  have N0 := Fr.nil n0
  show Rch p e below s₁ (entryFrame m #[(.ref ta)] 1) (fun U o => ∃ v L, o = .returned v ∧ Q_lastA Z ta tl tx ea y z n vs h0 n0 v U.heap L ∧ FrameEnd s o U L rO42.cells rO42.slots)
  refine Rch.cast (ef_acInit m ta) ?_
  show Rch p e below s₁ (mkF m 0 #[vR ta] []) _
  refine R1 (XS.aloadN X0.here hx rfl (dq (dg dla 0 rfl)) rfl rfl) ?_
  show Rch p e below s₁ (mkF m 1 #[vR ta] [(.ref ta)]) _
  obtain ⟨T335, X335, e335, st335⟩ := getF X0 hx hZ hown (host := "") (Or.inl (wq hw 98 rfl)) Via.refl e0 HC.2.1 (g := (mkF m 1 #[vR ta] [(.ref ta)])) rfl rfl (dq (dg dla 1 rfl))
  refine R0_ st335 ?_
  show Rch p e below T335 (mkF m 4 #[vR ta] [(.ref tl)]) _
  refine R1 (XS.aloadN X335.here hx rfl (dq (dg dla 2 rfl)) rfl rfl) ?_
  show Rch p e below T335 (mkF m 5 #[vR ta] [(.ref ta), (.ref tl)]) _
  obtain ⟨T336, X336, e336, st336⟩ := getF X335 hx hZ hown (host := "") (Or.inl (wq hw 98 rfl)) Via.refl e335 HC.2.1 (g := (mkF m 5 #[vR ta] [(.ref ta), (.ref tl)])) rfl rfl (dq (dg dla 3 rfl))
  refine R0_ st336 ?_
  show Rch p e below T336 (mkF m 8 #[vR ta] [(.ref tl), (.ref tl)]) _
  obtain ⟨cq337, kq337, q337a, q337b, q337c⟩ := isOf hZ e336 A.1
  obtain ⟨_, _, ⟨T337, L337, k337, n337⟩, -, X337, ⟨Lc337, hQ337, l337, y337, z337⟩, st337⟩ := X336.interfaceBack hx (xi := mN66) (y := mN8) hown (mw hZ hw 107 rfl) (mw hZ hw 108 rfl) (mw hZ hw 109 rfl) (mw hZ hw 110 rfl) (mw hZ hw 111 rfl) (mw hZ hw 112 rfl) (mw hZ hw 113 rfl) (mw hZ hw 114 rfl) (by decide) (backOf (W := 1) (rm_alSize l Z a0 hw [] tl ea z n vs h0 n0 Z0 A) hZ (wq hw 115 rfl) (wq hw 33 rfl) (by decide) (by decide)) q337a q337b q337c (g := (mkF m 8 #[vR ta] [(.ref tl), (.ref tl)])) rfl (by rw [hml]; rfl) (Steps.refl _) (argsL := []) (rest := [(.ref tl)]) (lenOf pd_20 rfl) rfl (w0 rfl) (dq (dg dla 4 rfl)) (fun _ _ => ⟨rfl, e336, (by decide : 0 + 0 ≤ _), (by decide : 0 + 0 ≤ _)⟩)
  dsimp only [Pt.U, Pt.locs, Pt.cells, Pt.slots] at X337 l337 y337 z337 st337 hQ337
  subst l337 y337 z337
  obtain ⟨rfl, Nq337, e337⟩ := hQ337
  have N337 := Fr.app N0 Nq337
  refine R2 st337 ?_
  show Rch p e below T337 (mkF m 13 #[vR ta] [(.int n), (.ref tl)]) _
  refine R1 (XS.iconst X337.here hx rfl (dq (dg dla 5 rfl)) ) ?_
  refine R1 (XS.isub X337.here hx rfl (dq (dg dla 6 rfl)) rfl) ?_
  show Rch p e below T337 (mkF m 15 #[vR ta] [(.int (n - (1 : Int32))), (.ref tl)]) _
  obtain ⟨cq338, kq338, q338a, q338b, q338c⟩ := isOf hZ e337 A.1
  obtain ⟨_, _, ⟨T338, L338, k338, n338⟩, -, X338, ⟨Lc338, hQ338, l338, y338, z338⟩, st338⟩ := X337.interfaceBack hx (xi := mN67) (y := mN13) hown (mw hZ hw 116 rfl) (mw hZ hw 117 rfl) (mw hZ hw 118 rfl) (mw hZ hw 119 rfl) (mw hZ hw 120 rfl) (mw hZ hw 121 rfl) (mw hZ hw 122 rfl) (mw hZ hw 114 rfl) (by decide) (backOf (W := 0) (rm_alGet l Z a0 hw [] tl ea z n vs (n - (1 : Int32)) y h0 n0 Z0 A hi hv hin) hZ (wq hw 123 rfl) (wq hw 33 rfl) (by decide) (by decide)) q338a q338b q338c (g := (mkF m 15 #[vR ta] [(.int (n - (1 : Int32))), (.ref tl)])) rfl (by rw [hml]; rfl) (Steps.refl _) (argsL := [(.int (n - (1 : Int32)))]) (rest := []) (lenOf pd_6 rfl) rfl (w0 rfl) (dq (dg dla 7 rfl)) (fun _ _ => ⟨rfl, e337, (by decide : 0 + 0 ≤ _), (by decide : 0 + 0 ≤ _)⟩)
  dsimp only [Pt.U, Pt.locs, Pt.cells, Pt.slots] at X338 l338 y338 z338 st338 hQ338
  subst l338 y338 z338
  obtain ⟨rfl, Nq338, e338⟩ := hQ338
  have N338 := Fr.app N337 Nq338
  refine R2 st338 ?_
  show Rch p e below T338 (mkF m 20 #[vR ta] [(.ref y)]) _
  obtain ⟨T339, X339, e339, st339⟩ := castY X338 hx hZ hown (wq hw 137 rfl) e338 (Ins.self EY) (g := (mkF m 20 #[vR ta] [(.ref y)])) rfl rfl (dq (dg dla 8 rfl))
  refine R0_ st339 ?_
  show Rch p e below T339 (mkF m 23 #[vR ta] [(.ref y)]) _
  exact Rch.fin (Q := Q_lastA Z ta tl tx ea y z n vs h0 n0) X339 (v := some (.ref y)) (fun h => by rw [Bd.returns] at h; cases h) (BodyLoose.notSynchronized Bd) (fun fs hr => retR X339 hx Bd.returns rfl rfl (dq (dg dla 9 rfl)) hr) (by rw [e339]; exact ⟨rfl, N338, rfl⟩) (by decide) (by decide)
def Q_last2 (Z : State) (ta tl tx x y em : Addr) (h0 : Heap) (n0 : Nat) (v : Option Value) (h : Heap) (L : List Loc) : Prop := v = some (.ref y) ∧ Fr n0 L ∧ h = h0
set_option maxRecDepth 65536 in
set_option maxHeartbeats 40000000 in
theorem rm_last2 (l : Launch) (Z : State) (a0 : Array Value) (hw : ∀ d ∈ tables_1, d.before a0 Z = true) (ws : List Jvm.Cond) (ta tl tx x y em : Addr) (h0 : Heap) (n0 : Nat) (Z0 : n0 ≤ h0.size) (HC : Chn Z h0 ta tl tx) (A : L12p Z h0 tl x y) (EMS : Sta Z h0 "java/util/ImmutableCollections" "EMPTY" "Ljava/lang/Object;" (.ref em)) (EME : Exa Z h0 em "java/lang/Object") (EY : Exa Z h0 y "java/lang/String") :
    MetFree l mN65 (head1 (Jvm.Cond.code mN65 prog_12_method_4_code 1 (some (.object "java/lang/String")) :: ws) rO30) (fun a U => a = #[(.ref ta)] ∧ Z.Warmed39 U.vm ∧ U.heap = h0) (fun _ _ _ _ _ => True) (fun _ U o U' => ∃ v L, o = .returned v ∧ Q_last2 Z ta tl tx x y em h0 n0 v U'.heap L ∧ FrameEnd U o U' L rO30.cells rO30.slots) := by
  refine MetFree.of_bodySF pn_lastA hisR ?_
  intro p e s m args below meth c s₁ Bd hml0 hP hK
  obtain ⟨rfl, hZ, hh⟩ := hP
  have hx := Bd.exec
  have hby := Bd.bytes
  have dq := @hb _ _ hby
  have hml : c.maxLocals = 1 := hml0
  have hown : s.vm.findClass "com/example/ampersat/ampersat/index/MetaChains$Chain" = some m.cls := findClass_of_methodNamed Bd.named
  have X0 : Stand p l e rO30 s m #[(.ref ta)] below meth c s₁ [] 0 0 := Stand.of_body Bd
  have e0 : s₁.heap = h0 := by rw [← hh, Bd.state]; rfl
  have N0 := Fr.nil n0
  show Rch p e below s₁ (entryFrame m #[(.ref ta)] 1) (fun U o => ∃ v L, o = .returned v ∧ Q_last2 Z ta tl tx x y em h0 n0 v U.heap L ∧ FrameEnd s o U L rO30.cells rO30.slots)
  refine Rch.cast (ef_acInit m ta) ?_
  show Rch p e below s₁ (mkF m 0 #[vR ta] []) _
  refine R1 (XS.aloadN X0.here hx rfl (dq (dg dla 0 rfl)) rfl rfl) ?_
  show Rch p e below s₁ (mkF m 1 #[vR ta] [(.ref ta)]) _
  obtain ⟨T340, X340, e340, st340⟩ := getF X0 hx hZ hown (host := "") (Or.inl (wq hw 98 rfl)) Via.refl e0 HC.2.1 (g := (mkF m 1 #[vR ta] [(.ref ta)])) rfl rfl (dq (dg dla 1 rfl))
  refine R0_ st340 ?_
  show Rch p e below T340 (mkF m 4 #[vR ta] [(.ref tl)]) _
  refine R1 (XS.aloadN X340.here hx rfl (dq (dg dla 2 rfl)) rfl rfl) ?_
  show Rch p e below T340 (mkF m 5 #[vR ta] [(.ref ta), (.ref tl)]) _
  obtain ⟨T341, X341, e341, st341⟩ := getF X340 hx hZ hown (host := "") (Or.inl (wq hw 98 rfl)) Via.refl e340 HC.2.1 (g := (mkF m 5 #[vR ta] [(.ref ta), (.ref tl)])) rfl rfl (dq (dg dla 3 rfl))
  refine R0_ st341 ?_
  show Rch p e below T341 (mkF m 8 #[vR ta] [(.ref tl), (.ref tl)]) _
  obtain ⟨cq342, kq342, q342a, q342b, q342c⟩ := isOf hZ e341 A.1
  obtain ⟨_, _, ⟨T342, L342, k342, n342⟩, -, X342, ⟨Lc342, hQ342, l342, y342, z342⟩, st342⟩ := X341.interfaceBack hx (xi := mN66) (y := mN61) hown (mw hZ hw 107 rfl) (mw hZ hw 108 rfl) (mw hZ hw 109 rfl) (mw hZ hw 366 rfl) (mw hZ hw 367 rfl) (mw hZ hw 368 rfl) (mw hZ hw 369 rfl) (mw hZ hw 370 rfl) (by decide) (backOf (W := 1) (rm_l12S l Z a0 hw [] tl x y em h0 n0 Z0 A EMS EME EY) hZ (wq hw 371 rfl) (wq hw 227 rfl) (by decide) (by decide)) q342a q342b q342c (g := (mkF m 8 #[vR ta] [(.ref tl), (.ref tl)])) rfl (by rw [hml]; rfl) (Steps.refl _) (argsL := []) (rest := [(.ref tl)]) (lenOf pd_20 rfl) rfl (w0 rfl) (dq (dg dla 4 rfl)) (fun _ _ => ⟨rfl, e341, (by decide : 0 + 0 ≤ _), (by decide : 0 + 0 ≤ _)⟩)
  dsimp only [Pt.U, Pt.locs, Pt.cells, Pt.slots] at X342 l342 y342 z342 st342 hQ342
  subst l342 y342 z342
  obtain ⟨rfl, Nq342, e342⟩ := hQ342
  have N342 := Fr.app N0 Nq342
  refine R2 st342 ?_
  show Rch p e below T342 (mkF m 13 #[vR ta] [(.int (2 : Int32)), (.ref tl)]) _
  refine R1 (XS.iconst X342.here hx rfl (dq (dg dla 5 rfl)) ) ?_
  refine R1 (XS.isub X342.here hx rfl (dq (dg dla 6 rfl)) rfl) ?_
  show Rch p e below T342 (mkF m 15 #[vR ta] [(.int ((2 : Int32) - (1 : Int32))), (.ref tl)]) _
  rw [show ((2 : Int32) - (1 : Int32)) = (1 : Int32) from by decide]
  show Rch p e below T342 (mkF m 15 #[vR ta] [(.int (1 : Int32)), (.ref tl)]) _
  obtain ⟨cq343, kq343, q343a, q343b, q343c⟩ := isOf hZ e342 A.1
  obtain ⟨_, _, ⟨T343, L343, k343, n343⟩, -, X343, ⟨Lc343, hQ343, l343, y343, z343⟩, st343⟩ := X342.interfaceBack hx (xi := mN67) (y := mN62) hown (mw hZ hw 116 rfl) (mw hZ hw 117 rfl) (mw hZ hw 118 rfl) (mw hZ hw 373 rfl) (mw hZ hw 374 rfl) (mw hZ hw 375 rfl) (mw hZ hw 376 rfl) (mw hZ hw 370 rfl) (by decide) (backOf (W := 0) (rm_l12G l Z a0 hw [] tl x y em h0 n0 Z0 A EMS EME EY) hZ (wq hw 377 rfl) (wq hw 227 rfl) (by decide) (by decide)) q343a q343b q343c (g := (mkF m 15 #[vR ta] [(.int (1 : Int32)), (.ref tl)])) rfl (by rw [hml]; rfl) (Steps.refl _) (argsL := [(.int (1 : Int32))]) (rest := []) (lenOf pd_6 rfl) rfl (w0 rfl) (dq (dg dla 7 rfl)) (fun _ _ => ⟨rfl, e342, (by decide : 0 + 0 ≤ _), (by decide : 0 + 0 ≤ _)⟩)
  dsimp only [Pt.U, Pt.locs, Pt.cells, Pt.slots] at X343 l343 y343 z343 st343 hQ343
  subst l343 y343 z343
  obtain ⟨rfl, Nq343, e343⟩ := hQ343
  have N343 := Fr.app N342 Nq343
  refine R2 st343 ?_
  show Rch p e below T343 (mkF m 20 #[vR ta] [(.ref y)]) _
  obtain ⟨T344, X344, e344, st344⟩ := castY X343 hx hZ hown (wq hw 137 rfl) e343 (Ins.self EY) (g := (mkF m 20 #[vR ta] [(.ref y)])) rfl rfl (dq (dg dla 8 rfl))
  refine R0_ st344 ?_
  show Rch p e below T344 (mkF m 23 #[vR ta] [(.ref y)]) _
  exact Rch.fin (Q := Q_last2 Z ta tl tx x y em h0 n0) X344 (v := some (.ref y)) (fun h => by rw [Bd.returns] at h; cases h) (BodyLoose.notSynchronized Bd) (fun fs hr => retR X344 hx Bd.returns rfl rfl (dq (dg dla 9 rfl)) hr) (by rw [e344]; exact ⟨rfl, N343, rfl⟩) (by decide) (by decide)
def Q_lastN (Z : State) (ta tl tx y : Addr) (n : Int32) (vs : List Value) (h0 : Heap) (n0 : Nat) (v : Option Value) (h : Heap) (L : List Loc) : Prop := v = some (.ref y) ∧ Fr n0 L ∧ h = h0
set_option maxRecDepth 65536 in
set_option maxHeartbeats 40000000 in
theorem rm_lastN (l : Launch) (Z : State) (a0 : Array Value) (hw : ∀ d ∈ tables_1, d.before a0 Z = true) (ws : List Jvm.Cond) (ta tl tx y : Addr) (n : Int32) (vs : List Value) (h0 : Heap) (n0 : Nat) (Z0 : n0 ≤ h0.size) (HC : Chn Z h0 ta tl tx) (A : LNp Z h0 tl n vs) (hi : ¬ (n - (1 : Int32)) < 0 ∧ (n - (1 : Int32)) < n) (hv : vs.getD (n - (1 : Int32)).toNatClampNeg .null = .ref y) (EY : Exa Z h0 y "java/lang/String") :
    MetFree l mN65 (head1 (Jvm.Cond.code mN65 prog_12_method_4_code 1 (some (.object "java/lang/String")) :: ws) rO30) (fun a U => a = #[(.ref ta)] ∧ Z.Warmed39 U.vm ∧ U.heap = h0) (fun _ _ _ _ _ => True) (fun _ U o U' => ∃ v L, o = .returned v ∧ Q_lastN Z ta tl tx y n vs h0 n0 v U'.heap L ∧ FrameEnd U o U' L rO30.cells rO30.slots) := by
  refine MetFree.of_bodySF pn_lastA hisR ?_
  intro p e s m args below meth c s₁ Bd hml0 hP hK
  obtain ⟨rfl, hZ, hh⟩ := hP
  have hx := Bd.exec
  have hby := Bd.bytes
  have dq := @hb _ _ hby
  have hml : c.maxLocals = 1 := hml0
  have hown : s.vm.findClass "com/example/ampersat/ampersat/index/MetaChains$Chain" = some m.cls := findClass_of_methodNamed Bd.named
  have X0 : Stand p l e rO30 s m #[(.ref ta)] below meth c s₁ [] 0 0 := Stand.of_body Bd
  have e0 : s₁.heap = h0 := by rw [← hh, Bd.state]; rfl
  have N0 := Fr.nil n0
  show Rch p e below s₁ (entryFrame m #[(.ref ta)] 1) (fun U o => ∃ v L, o = .returned v ∧ Q_lastN Z ta tl tx y n vs h0 n0 v U.heap L ∧ FrameEnd s o U L rO30.cells rO30.slots)
  refine Rch.cast (ef_acInit m ta) ?_
  show Rch p e below s₁ (mkF m 0 #[vR ta] []) _
  refine R1 (XS.aloadN X0.here hx rfl (dq (dg dla 0 rfl)) rfl rfl) ?_
  show Rch p e below s₁ (mkF m 1 #[vR ta] [(.ref ta)]) _
  obtain ⟨T345, X345, e345, st345⟩ := getF X0 hx hZ hown (host := "") (Or.inl (wq hw 98 rfl)) Via.refl e0 HC.2.1 (g := (mkF m 1 #[vR ta] [(.ref ta)])) rfl rfl (dq (dg dla 1 rfl))
  refine R0_ st345 ?_
  show Rch p e below T345 (mkF m 4 #[vR ta] [(.ref tl)]) _
  refine R1 (XS.aloadN X345.here hx rfl (dq (dg dla 2 rfl)) rfl rfl) ?_
  show Rch p e below T345 (mkF m 5 #[vR ta] [(.ref ta), (.ref tl)]) _
  obtain ⟨T346, X346, e346, st346⟩ := getF X345 hx hZ hown (host := "") (Or.inl (wq hw 98 rfl)) Via.refl e345 HC.2.1 (g := (mkF m 5 #[vR ta] [(.ref ta), (.ref tl)])) rfl rfl (dq (dg dla 3 rfl))
  refine R0_ st346 ?_
  show Rch p e below T346 (mkF m 8 #[vR ta] [(.ref tl), (.ref tl)]) _
  obtain ⟨cq347, kq347, q347a, q347b, q347c⟩ := isOf hZ e346 A.1
  obtain ⟨_, _, ⟨T347, L347, k347, n347⟩, -, X347, ⟨Lc347, hQ347, l347, y347, z347⟩, st347⟩ := X346.interfaceBack hx (xi := mN66) (y := mN63) hown (mw hZ hw 107 rfl) (mw hZ hw 108 rfl) (mw hZ hw 109 rfl) (mw hZ hw 410 rfl) (mw hZ hw 411 rfl) (mw hZ hw 412 rfl) (mw hZ hw 413 rfl) (mw hZ hw 414 rfl) (by decide) (backOf (W := 1) (rm_lnS l Z a0 hw [] tl n vs h0 n0 Z0 A) hZ (wq hw 415 rfl) (wq hw 397 rfl) (by decide) (by decide)) q347a q347b q347c (g := (mkF m 8 #[vR ta] [(.ref tl), (.ref tl)])) rfl (by rw [hml]; rfl) (Steps.refl _) (argsL := []) (rest := [(.ref tl)]) (lenOf pd_20 rfl) rfl (w0 rfl) (dq (dg dla 4 rfl)) (fun _ _ => ⟨rfl, e346, (by decide : 0 + 0 ≤ _), (by decide : 0 + 0 ≤ _)⟩)
  dsimp only [Pt.U, Pt.locs, Pt.cells, Pt.slots] at X347 l347 y347 z347 st347 hQ347
  subst l347 y347 z347
  obtain ⟨rfl, Nq347, e347⟩ := hQ347
  have N347 := Fr.app N0 Nq347
  refine R2 st347 ?_
  show Rch p e below T347 (mkF m 13 #[vR ta] [(.int n), (.ref tl)]) _
  refine R1 (XS.iconst X347.here hx rfl (dq (dg dla 5 rfl)) ) ?_
  refine R1 (XS.isub X347.here hx rfl (dq (dg dla 6 rfl)) rfl) ?_
  show Rch p e below T347 (mkF m 15 #[vR ta] [(.int (n - (1 : Int32))), (.ref tl)]) _
  obtain ⟨cq348, kq348, q348a, q348b, q348c⟩ := isOf hZ e347 A.1
  obtain ⟨_, _, ⟨T348, L348, k348, n348⟩, -, X348, ⟨Lc348, hQ348, l348, y348, z348⟩, st348⟩ := X347.interfaceBack hx (xi := mN67) (y := mN64) hown (mw hZ hw 116 rfl) (mw hZ hw 117 rfl) (mw hZ hw 118 rfl) (mw hZ hw 416 rfl) (mw hZ hw 417 rfl) (mw hZ hw 418 rfl) (mw hZ hw 419 rfl) (mw hZ hw 414 rfl) (by decide) (backOf (W := 0) (rm_lnG l Z a0 hw [] tl n vs (n - (1 : Int32)) y h0 n0 Z0 A hi hv) hZ (wq hw 420 rfl) (wq hw 397 rfl) (by decide) (by decide)) q348a q348b q348c (g := (mkF m 15 #[vR ta] [(.int (n - (1 : Int32))), (.ref tl)])) rfl (by rw [hml]; rfl) (Steps.refl _) (argsL := [(.int (n - (1 : Int32)))]) (rest := []) (lenOf pd_6 rfl) rfl (w0 rfl) (dq (dg dla 7 rfl)) (fun _ _ => ⟨rfl, e347, (by decide : 0 + 0 ≤ _), (by decide : 0 + 0 ≤ _)⟩)
  dsimp only [Pt.U, Pt.locs, Pt.cells, Pt.slots] at X348 l348 y348 z348 st348 hQ348
  subst l348 y348 z348
  obtain ⟨rfl, Nq348, e348⟩ := hQ348
  have N348 := Fr.app N347 Nq348
  refine R2 st348 ?_
  show Rch p e below T348 (mkF m 20 #[vR ta] [(.ref y)]) _
  obtain ⟨T349, X349, e349, st349⟩ := castY X348 hx hZ hown (wq hw 137 rfl) e348 (Ins.self EY) (g := (mkF m 20 #[vR ta] [(.ref y)])) rfl rfl (dq (dg dla 8 rfl))
  refine R0_ st349 ?_
  show Rch p e below T349 (mkF m 23 #[vR ta] [(.ref y)]) _
  exact Rch.fin (Q := Q_lastN Z ta tl tx y n vs h0 n0) X349 (v := some (.ref y)) (fun h => by rw [Bd.returns] at h; cases h) (BodyLoose.notSynchronized Bd) (fun fs hr => retR X349 hx Bd.returns rfl rfl (dq (dg dla 9 rfl)) hr) (by rw [e349]; exact ⟨rfl, N348, rfl⟩) (by decide) (by decide)
theorem deq : dxs jdk_42_method_66_code [(0, .aload_n 0, 1), (1, .aload_n 1, 1), (2, .if_acmp .ne 5, 3), (5, .iconst 1, 1), (6, .ireturn, 1)] = true := by decide +kernel
theorem pn_eqP : plainFor (⟨"java/lang/String", "equals", "(Ljava/lang/Object;)Z"⟩ : MethodName) = true := plainFor_of_name (by first | (simp [plainName, overriddenIn]; done) | decide +kernel)
def Q_eqP (Z : State) (x : Addr) (h0 : Heap) (n0 : Nat) (v : Option Value) (h : Heap) (L : List Loc) : Prop := v = some (.int 1) ∧ Fr n0 L ∧ h = h0
set_option maxRecDepth 65536 in
set_option maxHeartbeats 40000000 in
theorem rm_eqP (l : Launch) (Z : State) (a0 : Array Value) (hw : ∀ d ∈ tables_1, d.before a0 Z = true) (ws : List Jvm.Cond) (x : Addr) (h0 : Heap) (n0 : Nat) (Z0 : n0 ≤ h0.size) :
    MetFree l mN68 (head1 (Jvm.Cond.code mN68 jdk_42_method_66_code 3 (some .boolean) :: ws) rO3) (fun a U => a = #[(.ref x), (.ref x)] ∧ Z.Warmed39 U.vm ∧ U.heap = h0) (fun _ _ _ _ _ => True) (fun _ U o U' => ∃ v L, o = .returned v ∧ Q_eqP Z x h0 n0 v U'.heap L ∧ FrameEnd U o U' L rO3.cells rO3.slots) := by
  refine MetFree.of_bodySF pn_eqP hisR ?_
  intro p e s m args below meth c s₁ Bd hml0 hP hK
  obtain ⟨rfl, hZ, hh⟩ := hP
  have hx := Bd.exec
  have hby := Bd.bytes
  have dq := @hb _ _ hby
  have hml : c.maxLocals = 3 := hml0
  have X0 : Stand p l e rO3 s m #[(.ref x), (.ref x)] below meth c s₁ [] 0 0 := Stand.of_body Bd
  have e0 : s₁.heap = h0 := by rw [← hh, Bd.state]; rfl
  have N0 := Fr.nil n0
  show Rch p e below s₁ (entryFrame m #[(.ref x), (.ref x)] 3) (fun U o => ∃ v L, o = .returned v ∧ Q_eqP Z x h0 n0 v U.heap L ∧ FrameEnd s o U L rO3.cells rO3.slots)
  refine Rch.cast (ef_asbApp m x x) ?_
  show Rch p e below s₁ (mkF m 0 #[vR x, vR x, .unset] []) _
  refine R1 (XS.aloadN X0.here hx rfl (dq (dg deq 0 rfl)) rfl rfl) ?_
  refine R1 (XS.aloadN X0.here hx rfl (dq (dg deq 1 rfl)) rfl rfl) ?_
  refine R1 (XT.acmpNo X0.here hx rfl (dq (dg deq 2 rfl)) rfl rfl rfl (acN _)) ?_
  refine R1 (XS.iconst X0.here hx rfl (dq (dg deq 3 rfl)) ) ?_
  show Rch p e below s₁ (mkF m 6 #[vR x, vR x, .unset] [(.int (1 : Int32))]) _
  exact Rch.fin (Q := Q_eqP Z x h0 n0) X0 (v := some (.int (1 : Int32))) (fun h => by rw [Bd.returns] at h; cases h) (BodyLoose.notSynchronized Bd) (fun fs hr => retN X0 hx (t := .boolean) Bd.returns (by simp) (dq (dg deq 4 rfl)) hr) (by rw [e0]; exact ⟨rfl, N0, rfl⟩) (by decide) (by decide)
theorem dth : dxs prog_12_method_3_code [(0, .new 26, 3), (3, .dup, 1), (4, .aload_n 0, 1), (5, .getfield 7, 3), (8, .invokeinterface 31 1, 5), (13, .iconst 1, 1), (14, .iadd, 1), (15, .invokespecial 35, 3), (18, .astore_n 2, 1), (19, .aload_n 2, 1), (20, .aload_n 0, 1), (21, .getfield 7, 3), (24, .invokeinterface 42 2, 5), (29, .pop, 1), (30, .aload_n 2, 1), (31, .aload_n 1, 1), (32, .invokeinterface 38 2, 5), (37, .pop, 1), (38, .new 8, 3), (41, .dup, 1), (42, .aload_n 2, 1), (43, .invokestatic 46, 3), (46, .new 50, 3), (49, .dup, 1), (50, .invokespecial 52, 3), (53, .aload_n 0, 1), (54, .getfield 13, 3), (57, .invokevirtual 53, 3), (60, .bipush 32, 2), (62, .invokevirtual 57, 3), (65, .aload_n 1, 1), (66, .invokevirtual 53, 3), (69, .invokevirtual 63, 3), (72, .invokespecial 23, 3), (75, .areturn, 1)] = true := by decide +kernel
theorem dof : dxs prog_12_method_2_code [(0, .aload_n 1, 1), (1, .ifnonnull 19, 3), (20, .new 26, 3), (23, .dup, 1), (24, .aload_n 1, 1), (25, .invokevirtual 28, 3), (28, .invokeinterface 31 1, 5), (33, .iconst 1, 1), (34, .iadd, 1), (35, .invokespecial 35, 3), (38, .astore_n 3, 1), (39, .aload_n 3, 1), (40, .aload_n 0, 1), (41, .invokeinterface 38 2, 5), (46, .pop, 1), (47, .aload_n 3, 1), (48, .aload_n 1, 1), (49, .invokevirtual 28, 3), (52, .invokeinterface 42 2, 5), (57, .pop, 1), (58, .new 8, 3), (61, .dup, 1), (62, .aload_n 3, 1), (63, .invokestatic 46, 3), (66, .new 50, 3), (69, .dup, 1), (70, .invokespecial 52, 3), (73, .aload_n 0, 1), (74, .invokevirtual 53, 3), (77, .bipush 32, 2), (79, .invokevirtual 57, 3), (82, .aload_n 1, 1), (83, .invokevirtual 60, 3), (86, .invokevirtual 53, 3), (89, .invokevirtual 63, 3), (92, .invokespecial 23, 3), (95, .astore_n 2, 1), (96, .aload_n 2, 1), (97, .areturn, 1)] = true := by decide +kernel
theorem pn_th1 : plainFor (⟨"com/example/ampersat/ampersat/index/MetaChains$Chain", "then", "(Ljava/lang/String;)Lcom/example/ampersat/ampersat/index/MetaChains$Chain;"⟩ : MethodName) = true := plainFor_of_name (by first | (simp [plainName, overriddenIn]; done) | decide +kernel)
def Q_th1 (Z : State) (ta tl tx ts ea mr y0 : Addr) (nt ns : Nat) (h0 : Heap) (n0 : Nat) (v : Option Value) (h : Heap) (L : List Loc) : Prop := ∃ r t u, v = some (.ref r) ∧ Fr n0 L ∧ Ext h0 h ∧ Chn Z h r t u ∧ L12p Z h t y0 ts
set_option maxRecDepth 65536 in
set_option maxHeartbeats 40000000 in
theorem rm_th1 (l : Launch) (Z : State) (a0 : Array Value) (hw : ∀ d ∈ tables_1, d.before a0 Z = true) (ws : List Jvm.Cond) (ta tl tx ts ea mr y0 : Addr) (nt ns : Nat) (h0 : Heap) (n0 : Nat) (Z0 : n0 ≤ h0.size) (HC : Chn Z h0 ta tl tx) (A : Al Z h0 tl ea 10 (1 : Int32) [(.ref y0)]) (MR : Mi Z "[Ljava/lang/Object;" mr) (SX : Sl Z h0 tx nt) (SS : Sl Z h0 ts ns) (hnt : nt ≤ 2) (hns : ns ≤ 2) (CS : Cmp Z h0) (EX0 : Exa Z h0 y0 "java/lang/String") :
    MetFree l mN69 (head1 (Jvm.Cond.code mN69 prog_12_method_3_code 3 (some (.object "com/example/ampersat/ampersat/index/MetaChains$Chain")) :: ws) rO43) (fun a U => a = #[(.ref ta), (.ref ts)] ∧ Z.Warmed39 U.vm ∧ U.heap = h0) (fun _ _ _ _ _ => True) (fun _ U o U' => ∃ v L, o = .returned v ∧ Q_th1 Z ta tl tx ts ea mr y0 nt ns h0 n0 v U'.heap L ∧ FrameEnd U o U' L rO43.cells rO43.slots) := by
  refine MetFree.of_bodySF pn_th1 hisR ?_
  intro p e s m args below meth c s₁ Bd hml0 hP hK
  obtain ⟨rfl, hZ, hh⟩ := hP
  have hx := Bd.exec
  have hby := Bd.bytes
  have dq := @hb _ _ hby
  have hml : c.maxLocals = 3 := hml0
  have hown : s.vm.findClass "com/example/ampersat/ampersat/index/MetaChains$Chain" = some m.cls := findClass_of_methodNamed Bd.named
  have X0 : Stand p l e rO43 s m #[(.ref ta), (.ref ts)] below meth c s₁ [] 0 0 := Stand.of_body Bd
  have e0 : s₁.heap = h0 := by rw [← hh, Bd.state]; rfl
  have N0 := Fr.nil n0
  show Rch p e below s₁ (entryFrame m #[(.ref ta), (.ref ts)] 3) (fun U o => ∃ v L, o = .returned v ∧ Q_th1 Z ta tl tx ts ea mr y0 nt ns h0 n0 v U.heap L ∧ FrameEnd s o U L rO43.cells rO43.slots)
  refine Rch.cast (ef_asbApp m ta ts) ?_
  show Rch p e below s₁ (mkF m 0 #[vR ta, vR ts, .unset] []) _
  obtain ⟨T350, h350, X350, e350, E350, A350, D350, -, st350⟩ := newO X0 hx hZ hown (wq hw 148 rfl) (wq hw 32 rfl) (wq hw 33 rfl) e0 (g := (mkF m 0 #[vR ta, vR ts, .unset] [])) rfl (dq (dg dth 0 rfl)) (by decide) (by decide)
  obtain ⟨a350, g350⟩ : ∃ z, z = h0.size := ⟨_, rfl⟩
  rw [← g350] at A350 D350 st350
  have Ex351 : Ext h0 h350 := E350
  have le352 : h0.size ≤ a350 := Nat.le_of_eq g350.symm
  refine R0_ st350 ?_
  show Rch p e below T350 (mkF m 3 #[vR ta, vR ts, .unset] [(.ref a350)]) _
  refine R1 (XS.dup X350.here hx rfl (dq (dg dth 1 rfl)) rfl rfl) ?_
  refine R1 (XS.aloadN X350.here hx rfl (dq (dg dth 2 rfl)) rfl rfl) ?_
  show Rch p e below T350 (mkF m 5 #[vR ta, vR ts, .unset] [(.ref ta), (.ref a350), (.ref a350)]) _
  obtain ⟨T353, X353, e353, st353⟩ := getF X350 hx hZ hown (host := "") (Or.inl (wq hw 98 rfl)) Via.refl e350 (HC.ext Ex351).2.1 (g := (mkF m 5 #[vR ta, vR ts, .unset] [(.ref ta), (.ref a350), (.ref a350)])) rfl rfl (dq (dg dth 3 rfl))
  refine R0_ st353 ?_
  show Rch p e below T353 (mkF m 8 #[vR ta, vR ts, .unset] [(.ref tl), (.ref a350), (.ref a350)]) _
  obtain ⟨cq354, kq354, q354a, q354b, q354c⟩ := isOf hZ e353 (A.ext Ex351).1
  obtain ⟨_, _, ⟨T354, L354, k354, n354⟩, -, X354, ⟨Lc354, hQ354, l354, y354, z354⟩, st354⟩ := X353.interfaceBack hx (xi := mN66) (y := mN8) hown (mw hZ hw 107 rfl) (mw hZ hw 108 rfl) (mw hZ hw 109 rfl) (mw hZ hw 110 rfl) (mw hZ hw 111 rfl) (mw hZ hw 112 rfl) (mw hZ hw 113 rfl) (mw hZ hw 114 rfl) (by decide) (backOf (W := 2) (rm_alSize l Z a0 hw [] tl ea 10 (1 : Int32) [(.ref y0)] h350 n0 (Nat.le_trans Z0 Ex351.1) (A.ext Ex351)) hZ (wq hw 115 rfl) (wq hw 33 rfl) (by decide) (by decide)) q354a q354b q354c (g := (mkF m 8 #[vR ta, vR ts, .unset] [(.ref tl), (.ref a350), (.ref a350)])) rfl (by rw [hml]; rfl) (Steps.refl _) (argsL := []) (rest := [(.ref a350), (.ref a350)]) (lenOf pd_20 rfl) rfl (w0 rfl) (dq (dg dth 4 rfl)) (fun _ _ => ⟨rfl, e353, (by decide : 1 + 0 ≤ _), (by decide : 3 + 0 ≤ _)⟩)
  dsimp only [Pt.U, Pt.locs, Pt.cells, Pt.slots] at X354 l354 y354 z354 st354 hQ354
  subst l354 y354 z354
  obtain ⟨rfl, Nq354, e354⟩ := hQ354
  have N354 := Fr.app N0 Nq354
  refine R2 st354 ?_
  show Rch p e below T354 (mkF m 13 #[vR ta, vR ts, .unset] [(.int (1 : Int32)), (.ref a350), (.ref a350)]) _
  refine R1 (XS.iconst X354.here hx rfl (dq (dg dth 5 rfl)) ) ?_
  refine R1 (XS.iadd X354.here hx rfl (dq (dg dth 6 rfl)) rfl) ?_
  show Rch p e below T354 (mkF m 15 #[vR ta, vR ts, .unset] [(.int ((1 : Int32) + (1 : Int32))), (.ref a350), (.ref a350)]) _
  rw [show ((1 : Int32) + (1 : Int32)) = (2 : Int32) from by decide]
  show Rch p e below T354 (mkF m 15 #[vR ta, vR ts, .unset] [(.int (2 : Int32)), (.ref a350), (.ref a350)]) _
  obtain ⟨_, _, ⟨T355, L355, k355, n355⟩, -, X355, ⟨Lc355, hQ355, l355, y355, z355⟩, st355⟩ := X354.specialBack hx (y := mN18) rfl hown (mw hZ hw 149 rfl) (mw hZ hw 150 rfl) (mw hZ hw 151 rfl) (by decide) (backOf (W := 1) (rm_alInitN l Z a0 hw [] a350 (2 : Int32) .null h350 n0 (Nat.le_trans Z0 Ex351.1) (Nat.le_trans Z0 le352) A350 ((D350 (Or.inl (wq hw 54 rfl)) (ty := (.array (.object "java/lang/Object"))) (by decide)).ext Ext.rf) ((D350 (Or.inl (wq hw 63 rfl)) (ty := .int) (by decide)).ext Ext.rf) ((D350 (Or.inl (wq hw 51 rfl)) (ty := .int) (by decide)).ext Ext.rf) (by decide) (by decide) (by decide)) hZ (wq hw 151 rfl) (wq hw 33 rfl) (by decide) (by decide)) (g := (mkF m 15 #[vR ta, vR ts, .unset] [(.int (2 : Int32)), (.ref a350), (.ref a350)])) rfl (by rw [hml]; rfl) (Steps.refl _) (a := a350) (argsL := [(.int (2 : Int32))]) (rest := [(.ref a350)]) (lenOf pd_19 rfl) rfl (w0 rfl) (dq (dg dth 7 rfl)) (fun _ _ => ⟨rfl, e354, (by decide : 1 + 1 ≤ _), (by decide : 3 + 4 ≤ _)⟩)
  dsimp only [Pt.U, Pt.locs, Pt.cells, Pt.slots] at X355 l355 y355 z355 st355 hQ355
  subst l355 y355 z355
  obtain ⟨ea355, rfl, Nq355, K355, le355_, A355⟩ := hQ355
  have N355 := Fr.app N354 Nq355
  have Ex356 : Ext h0 T355.heap := extKeep Ex351 K355 (allS le352 all0)
  refine R2 st355 ?_
  show Rch p e below T355 (mkF m 18 #[vR ta, vR ts, .unset] [(.ref a350)]) _
  have le357 : h0.size ≤ ea355 := Nat.le_trans Ex351.1 le355_
  refine R1 (XS.astoreN X355.here hx rfl (dq (dg dth 8 rfl)) rfl rfl (l' := #[vR ta, vR ts, vR a350]) rfl) ?_
  refine R1 (XS.aloadN X355.here hx rfl (dq (dg dth 9 rfl)) rfl rfl) ?_
  refine R1 (XS.aloadN X355.here hx rfl (dq (dg dth 10 rfl)) rfl rfl) ?_
  show Rch p e below T355 (mkF m 21 #[vR ta, vR ts, vR a350] [(.ref ta), (.ref a350)]) _
  obtain ⟨T359, X359, e359, st359⟩ := getF X355 hx hZ hown (host := "") (Or.inl (wq hw 98 rfl)) Via.refl rfl (HC.ext Ex356).2.1 (g := (mkF m 21 #[vR ta, vR ts, vR a350] [(.ref ta), (.ref a350)])) rfl rfl (dq (dg dth 11 rfl))
  refine R0_ st359 ?_
  show Rch p e below T359 (mkF m 24 #[vR ta, vR ts, vR a350] [(.ref tl), (.ref a350)]) _
  obtain ⟨cq360, kq360, q360a, q360b, q360c⟩ := isOf hZ e359 A355.1
  obtain ⟨_, _, ⟨T360, L360, k360, n360⟩, -, X360, ⟨Lc360, hQ360, l360, y360, z360⟩, st360⟩ := X359.interfaceBack hx (xi := mN70) (y := mN19) hown (mw hZ hw 152 rfl) (mw hZ hw 153 rfl) (mw hZ hw 154 rfl) (mw hZ hw 155 rfl) (mw hZ hw 156 rfl) (mw hZ hw 157 rfl) (mw hZ hw 158 rfl) (mw hZ hw 114 rfl) (by decide) (backOf (W := 0) (rm_addAll l Z a0 hw [] a350 ea355 tl ea mr (2 : Int32) (0 : Int32) 10 (1 : Int32) [] [(.ref y0)] [(.ref y0)] T355.heap n0 (Nat.le_trans Z0 Ex356.1) (Nat.le_trans Z0 le352) (Nat.le_trans Z0 le357) A355 (A.ext Ex356) MR (by decide) (by decide) (by decide) rfl (fun v hv => by simp only [List.mem_cons, List.not_mem_nil, or_false] at hv; rcases hv with rfl <;> first | exact ⟨_, rfl, (EX0.ext Ex356)⟩) (by decide) (by decide) (by decide) rfl (Nat.le_of_ble_eq_true rfl)) hZ (wq hw 159 rfl) (wq hw 33 rfl) (by decide) (by decide)) q360a q360b q360c (g := (mkF m 24 #[vR ta, vR ts, vR a350] [(.ref tl), (.ref a350)])) rfl (by rw [hml]; rfl) (Steps.refl _) (argsL := [(.ref tl)]) (rest := []) (lenOf pd_31 rfl) rfl (w0 rfl) (dq (dg dth 12 rfl)) (fun _ _ => ⟨rfl, e359, (by decide : 2 + 1 ≤ _), (by decide : 7 + 4 ≤ _)⟩)
  dsimp only [Pt.U, Pt.locs, Pt.cells, Pt.slots] at X360 l360 y360 z360 st360 hQ360
  subst l360 y360 z360
  obtain ⟨rfl, Nq360, K360, A360⟩ := hQ360
  have N360 := Fr.app N355 Nq360
  have Ex361 : Ext h0 T360.heap := extKeep Ex356 K360 (allS le352 (allS le357 all0))
  refine R2 st360 ?_
  show Rch p e below T360 (mkF m 29 #[vR ta, vR ts, vR a350] [(.int (1 : Int32))]) _
  have AL360 : Al Z T360.heap a350 ea355 (2 : Int32) (1 : Int32) [(.ref y0)] := by have q := A360; rw [show (0 : Int32) + (1 : Int32) = (1 : Int32) from by decide] at q; exact q
  refine R1 (XT.pop X360.here hx rfl (dq (dg dth 13 rfl)) rfl rfl) ?_
  refine R1 (XS.aloadN X360.here hx rfl (dq (dg dth 14 rfl)) rfl rfl) ?_
  refine R1 (XS.aloadN X360.here hx rfl (dq (dg dth 15 rfl)) rfl rfl) ?_
  show Rch p e below T360 (mkF m 32 #[vR ta, vR ts, vR a350] [(.ref ts), (.ref a350)]) _
  obtain ⟨cq362, kq362, q362a, q362b, q362c⟩ := isOf hZ rfl AL360.1
  obtain ⟨_, _, ⟨T362, L362, k362, n362⟩, -, X362, ⟨Lc362, hQ362, l362, y362, z362⟩, st362⟩ := X360.interfaceBack hx (xi := mN71) (y := mN7) hown (mw hZ hw 192 rfl) (mw hZ hw 193 rfl) (mw hZ hw 194 rfl) (mw hZ hw 195 rfl) (mw hZ hw 57 rfl) (mw hZ hw 196 rfl) (mw hZ hw 197 rfl) (mw hZ hw 114 rfl) (by decide) (backOf (W := 0) (rm_addR l Z a0 hw [] a350 ts ea355 (2 : Int32) (1 : Int32) [(.ref y0)] T360.heap n0 (Nat.le_trans Z0 Ex361.1) (Nat.le_trans Z0 le352) (Nat.le_trans Z0 le357) AL360 (SS.ext Ex361).exa (by decide) ⟨by decide, by decide⟩ rfl) hZ (wq hw 59 rfl) (wq hw 33 rfl) (by decide) (by decide)) q362a q362b q362c (g := (mkF m 32 #[vR ta, vR ts, vR a350] [(.ref ts), (.ref a350)])) rfl (by rw [hml]; rfl) (Steps.refl _) (argsL := [(.ref ts)]) (rest := []) (lenOf pd_32 rfl) rfl (w0 rfl) (dq (dg dth 16 rfl)) (fun _ _ => ⟨rfl, rfl, (by decide : 3 + 0 ≤ _), (by decide : 11 + 0 ≤ _)⟩)
  dsimp only [Pt.U, Pt.locs, Pt.cells, Pt.slots] at X362 l362 y362 z362 st362 hQ362
  subst l362 y362 z362
  obtain ⟨rfl, Nq362, K362, A362⟩ := hQ362
  have N362 := Fr.app N360 Nq362
  have Ex363 : Ext h0 T362.heap := extKeep Ex361 K362 (allS le352 (allS le357 all0))
  refine R2 st362 ?_
  show Rch p e below T362 (mkF m 37 #[vR ta, vR ts, vR a350] [(.int (1 : Int32))]) _
  have AL362 : Al Z T362.heap a350 ea355 (2 : Int32) (2 : Int32) [(.ref y0), (.ref ts)] := by have q := A362; rw [show (1 : Int32) + (1 : Int32) = (2 : Int32) from by decide] at q; exact q
  refine R1 (XT.pop X362.here hx rfl (dq (dg dth 17 rfl)) rfl rfl) ?_
  show Rch p e below T362 (mkF m 38 #[vR ta, vR ts, vR a350] []) _
  obtain ⟨T364, h364, X364, e364, E364, A364, D364, -, st364⟩ := newO X362 hx hZ hown (wq hw 198 rfl) (wq hw 87 rfl) (wq hw 88 rfl) rfl (g := (mkF m 38 #[vR ta, vR ts, vR a350] [])) rfl (dq (dg dth 18 rfl)) (by decide) (by decide)
  obtain ⟨a364, g364⟩ : ∃ z, z = T362.heap.size := ⟨_, rfl⟩
  rw [← g364] at A364 D364 st364
  have Ex365 : Ext h0 h364 := Ex363.tr E364
  have Ex366 : Ext T362.heap h364 := E364
  have le367 : h0.size ≤ a364 := Nat.le_trans Ex363.1 (Nat.le_of_eq g364.symm)
  refine R0_ st364 ?_
  show Rch p e below T364 (mkF m 41 #[vR ta, vR ts, vR a350] [(.ref a364)]) _
  refine R1 (XS.dup X364.here hx rfl (dq (dg dth 19 rfl)) rfl rfl) ?_
  refine R1 (XS.aloadN X364.here hx rfl (dq (dg dth 20 rfl)) rfl rfl) ?_
  show Rch p e below T364 (mkF m 43 #[vR ta, vR ts, vR a350] [(.ref a350), (.ref a364), (.ref a364)]) _
  obtain ⟨_, _, ⟨T369, L369, k369, n369⟩, -, X369, ⟨Lc369, hQ369, l369, y369, z369⟩, st369⟩ := Jvm.LawKit.callS X364 hx (y := mN29) hown (mw hZ hw 199 rfl) (mw hZ hw 200 rfl) (mw hZ hw 201 rfl) (mw hZ hw 202 rfl) (by decide) (backOf (W := 2) (rm_cpo2 l Z a0 hw [] a350 ea355 mr y0 ts h364 n0 (Nat.le_trans Z0 Ex365.1) (AL362.ext Ex366) MR (EX0.ext Ex365) (SS.ext Ex365).exa) hZ (wq hw 202 rfl) (wq hw 201 rfl) (by decide) (by decide)) (g := (mkF m 43 #[vR ta, vR ts, vR a350] [(.ref a350), (.ref a364), (.ref a364)])) rfl (by rw [hml]; rfl) (argsL := [(.ref a350)]) (rest := [(.ref a364), (.ref a364)]) (lenOf pd_13 rfl) rfl (w0 rfl) (dq (dg dth 21 rfl)) (fun _ _ => ⟨rfl, e364, (by decide : 4 + 2 ≤ _), (by decide : 13 + 6 ≤ _)⟩)
  dsimp only [Pt.U, Pt.locs, Pt.cells, Pt.slots] at X369 l369 y369 z369 st369 hQ369
  subst l369 y369 z369
  obtain ⟨t369, rfl, Nq369, E369, le369_, R369⟩ := hQ369
  have N369 := Fr.app N362 Nq369
  have Ex370 : Ext h0 T369.heap := Ex365.tr E369
  have Ex372 : Ext h364 T369.heap := E369
  refine R0_ st369 ?_
  show Rch p e below T369 (mkF m 46 #[vR ta, vR ts, vR a350] [(.ref t369), (.ref a364), (.ref a364)]) _
  obtain ⟨T373, h373, X373, e373, E373, A373, D373, -, st373⟩ := newO X369 hx hZ hown (wq hw 253 rfl) (wq hw 254 rfl) (wq hw 255 rfl) rfl (g := (mkF m 46 #[vR ta, vR ts, vR a350] [(.ref t369), (.ref a364), (.ref a364)])) rfl (dq (dg dth 22 rfl)) (by decide) (by decide)
  obtain ⟨a373, g373⟩ : ∃ z, z = T369.heap.size := ⟨_, rfl⟩
  rw [← g373] at A373 D373 st373
  have Ex374 : Ext h0 h373 := Ex370.tr E373
  have Ex376 : Ext h364 h373 := Ex372.tr E373
  have Ex377 : Ext T369.heap h373 := E373
  have le378 : h0.size ≤ a373 := Nat.le_trans Ex370.1 (Nat.le_of_eq g373.symm)
  have le380 : h364.size ≤ a373 := Nat.le_trans Ex372.1 (Nat.le_of_eq g373.symm)
  have le381 : T369.heap.size ≤ a373 := Nat.le_of_eq g373.symm
  refine R0_ st373 ?_
  show Rch p e below T373 (mkF m 49 #[vR ta, vR ts, vR a350] [(.ref a373), (.ref t369), (.ref a364), (.ref a364)]) _
  refine R1 (XS.dup X373.here hx rfl (dq (dg dth 23 rfl)) rfl rfl) ?_
  show Rch p e below T373 (mkF m 50 #[vR ta, vR ts, vR a350] [(.ref a373), (.ref a373), (.ref t369), (.ref a364), (.ref a364)]) _
  obtain ⟨_, _, ⟨T382, L382, k382, n382⟩, -, X382, ⟨Lc382, hQ382, l382, y382, z382⟩, st382⟩ := X373.specialBack hx (y := mN38) rfl hown (mw hZ hw 256 rfl) (mw hZ hw 257 rfl) (mw hZ hw 258 rfl) (by decide) (backOf (W := 4) (rm_sbInit l Z a0 hw [] a373 h373 n0 (Nat.le_trans Z0 Ex374.1) (Nat.le_trans Z0 le378) A373 ((D373 (Or.inl (wq hw 268 rfl)) (ty := (.array .byte)) (by decide)).ext Ext.rf) ((D373 (Or.inl (wq hw 270 rfl)) (ty := .byte) (by decide)).ext Ext.rf) ((D373 (Or.inl (wq hw 292 rfl)) (ty := .int) (by decide)).ext Ext.rf) (CS.ext Ex374)) hZ (wq hw 258 rfl) (wq hw 255 rfl) (by decide) (by decide)) (g := (mkF m 50 #[vR ta, vR ts, vR a350] [(.ref a373), (.ref a373), (.ref t369), (.ref a364), (.ref a364)])) rfl (by rw [hml]; rfl) (Steps.refl _) (a := a373) (argsL := []) (rest := [(.ref a373), (.ref t369), (.ref a364), (.ref a364)]) (lenOf pd_0 rfl) rfl (w0 rfl) (dq (dg dth 24 rfl)) (fun _ _ => ⟨rfl, e373, (by decide : 7 + 1 ≤ _), (by decide : 23 + 16 ≤ _)⟩)
  dsimp only [Pt.U, Pt.locs, Pt.cells, Pt.slots] at X382 l382 y382 z382 st382 hQ382
  subst l382 y382 z382
  obtain ⟨va382, rfl, Nq382, K382, le382_, B382⟩ := hQ382
  have N382 := Fr.app N369 Nq382
  have Ex383 : Ext h0 T382.heap := extKeep Ex374 K382 (allS le378 all0)
  have Ex385 : Ext h364 T382.heap := extKeep Ex376 K382 (allS le380 all0)
  have Ex386 : Ext T369.heap T382.heap := extKeep Ex377 K382 (allS le381 all0)
  refine R2 st382 ?_
  show Rch p e below T382 (mkF m 53 #[vR ta, vR ts, vR a350] [(.ref a373), (.ref t369), (.ref a364), (.ref a364)]) _
  have le387 : h0.size ≤ va382 := Nat.le_trans Ex374.1 le382_
  have le389 : h364.size ≤ va382 := Nat.le_trans Ex376.1 le382_
  have le390 : T369.heap.size ≤ va382 := Nat.le_trans Ex377.1 le382_
  refine R1 (XS.aloadN X382.here hx rfl (dq (dg dth 25 rfl)) rfl rfl) ?_
  show Rch p e below T382 (mkF m 54 #[vR ta, vR ts, vR a350] [(.ref ta), (.ref a373), (.ref t369), (.ref a364), (.ref a364)]) _
  obtain ⟨T392, X392, e392, st392⟩ := getF X382 hx hZ hown (host := "") (Or.inl (wq hw 100 rfl)) Via.refl rfl (HC.ext Ex383).2.2 (g := (mkF m 54 #[vR ta, vR ts, vR a350] [(.ref ta), (.ref a373), (.ref t369), (.ref a364), (.ref a364)])) rfl rfl (dq (dg dth 26 rfl))
  refine R0_ st392 ?_
  show Rch p e below T392 (mkF m 57 #[vR ta, vR ts, vR a350] [(.ref tx), (.ref a373), (.ref t369), (.ref a364), (.ref a364)]) _
  obtain ⟨cq393, kq393, q393a, q393b, q393c⟩ := isOf hZ e392 B382.1
  obtain ⟨_, _, ⟨T393, L393, k393, n393⟩, -, X393, ⟨Lc393, hQ393, l393, y393, z393⟩, st393⟩ := X392.virtualBack hx (y := mN48) (z := mN48) hown (mw hZ hw 271 rfl) (mw hZ hw 272 rfl) (notFace_of_selects (args := #[]) (mw hZ hw 274 rfl)) (mw hZ hw 274 rfl) (mw hZ hw 273 rfl) (by decide) (backOf (W := 3) (rm_sbApp l Z a0 hw [] a373 va382 tx (0) nt T382.heap n0 (Nat.le_trans Z0 Ex383.1) B382 (SX.ext Ex383) (Nat.le_trans Z0 le378) (Nat.le_trans Z0 le387) (by omega) (CS.ext Ex383)) hZ (wq hw 275 rfl) (wq hw 255 rfl) (by decide) (by decide)) q393a q393c (g := (mkF m 57 #[vR ta, vR ts, vR a350] [(.ref tx), (.ref a373), (.ref t369), (.ref a364), (.ref a364)])) rfl (by rw [hml]; rfl) (Steps.refl _) (argsL := [(.ref tx)]) (rest := [(.ref t369), (.ref a364), (.ref a364)]) (lenOf pd_33 rfl) rfl (w0 rfl) (dq (dg dth 27 rfl)) (fun _ _ => ⟨rfl, e392, (by decide : 8 + 0 ≤ _), (by decide : 39 + 0 ≤ _)⟩)
  dsimp only [Pt.U, Pt.locs, Pt.cells, Pt.slots] at X393 l393 y393 z393 st393 hQ393
  subst l393 y393 z393
  obtain ⟨rfl, Nq393, K393, B393⟩ := hQ393
  have N393 := Fr.app N382 Nq393
  have Ex394 : Ext h0 T393.heap := extKeep Ex383 K393 (allS le378 (allS le387 all0))
  have Ex396 : Ext h364 T393.heap := extKeep Ex385 K393 (allS le380 (allS le389 all0))
  have Ex397 : Ext T369.heap T393.heap := extKeep Ex386 K393 (allS le381 (allS le390 all0))
  refine R2 st393 ?_
  show Rch p e below T393 (mkF m 60 #[vR ta, vR ts, vR a350] [(.ref a373), (.ref t369), (.ref a364), (.ref a364)]) _
  refine R1 (XS.bipush X393.here hx rfl (dq (dg dth 28 rfl)) ) ?_
  show Rch p e below T393 (mkF m 62 #[vR ta, vR ts, vR a350] [(.int (32 : Int32)), (.ref a373), (.ref t369), (.ref a364), (.ref a364)]) _
  obtain ⟨cq398, kq398, q398a, q398b, q398c⟩ := isOf hZ rfl B393.1
  obtain ⟨_, _, ⟨T398, L398, k398, n398⟩, -, X398, ⟨Lc398, hQ398, l398, y398, z398⟩, st398⟩ := X393.virtualBack hx (y := mN50) (z := mN50) hown (mw hZ hw 315 rfl) (mw hZ hw 316 rfl) (notFace_of_selects (args := #[]) (mw hZ hw 318 rfl)) (mw hZ hw 318 rfl) (mw hZ hw 317 rfl) (by decide) (backOf (W := 3) (rm_sbAppC l Z a0 hw [] a373 va382 (0 + nt) (32 : Int32) T393.heap n0 (Nat.le_trans Z0 Ex394.1) B393 (Nat.le_trans Z0 le378) (Nat.le_trans Z0 le387) (by omega) (by decide) (CS.ext Ex394)) hZ (wq hw 319 rfl) (wq hw 255 rfl) (by decide) (by decide)) q398a q398c (g := (mkF m 62 #[vR ta, vR ts, vR a350] [(.int (32 : Int32)), (.ref a373), (.ref t369), (.ref a364), (.ref a364)])) rfl (by rw [hml]; rfl) (Steps.refl _) (argsL := [(.int (32 : Int32))]) (rest := [(.ref t369), (.ref a364), (.ref a364)]) (lenOf pd_34 rfl) rfl (w0 rfl) (dq (dg dth 29 rfl)) (fun _ _ => ⟨rfl, rfl, (by decide : 8 + 0 ≤ _), (by decide : 39 + 0 ≤ _)⟩)
  dsimp only [Pt.U, Pt.locs, Pt.cells, Pt.slots] at X398 l398 y398 z398 st398 hQ398
  subst l398 y398 z398
  obtain ⟨rfl, Nq398, K398, B398⟩ := hQ398
  have N398 := Fr.app N393 Nq398
  have Ex399 : Ext h0 T398.heap := extKeep Ex394 K398 (allS le378 (allS le387 all0))
  have Ex401 : Ext h364 T398.heap := extKeep Ex396 K398 (allS le380 (allS le389 all0))
  have Ex402 : Ext T369.heap T398.heap := extKeep Ex397 K398 (allS le381 (allS le390 all0))
  refine R2 st398 ?_
  show Rch p e below T398 (mkF m 65 #[vR ta, vR ts, vR a350] [(.ref a373), (.ref t369), (.ref a364), (.ref a364)]) _
  refine R1 (XS.aloadN X398.here hx rfl (dq (dg dth 30 rfl)) rfl rfl) ?_
  show Rch p e below T398 (mkF m 66 #[vR ta, vR ts, vR a350] [(.ref ts), (.ref a373), (.ref t369), (.ref a364), (.ref a364)]) _
  obtain ⟨cq403, kq403, q403a, q403b, q403c⟩ := isOf hZ rfl B398.1
  obtain ⟨_, _, ⟨T403, L403, k403, n403⟩, -, X403, ⟨Lc403, hQ403, l403, y403, z403⟩, st403⟩ := X398.virtualBack hx (y := mN48) (z := mN48) hown (mw hZ hw 271 rfl) (mw hZ hw 272 rfl) (notFace_of_selects (args := #[]) (mw hZ hw 274 rfl)) (mw hZ hw 274 rfl) (mw hZ hw 273 rfl) (by decide) (backOf (W := 3) (rm_sbApp l Z a0 hw [] a373 va382 ts (0 + nt + 1) ns T398.heap n0 (Nat.le_trans Z0 Ex399.1) B398 (SS.ext Ex399) (Nat.le_trans Z0 le378) (Nat.le_trans Z0 le387) (by omega) (CS.ext Ex399)) hZ (wq hw 275 rfl) (wq hw 255 rfl) (by decide) (by decide)) q403a q403c (g := (mkF m 66 #[vR ta, vR ts, vR a350] [(.ref ts), (.ref a373), (.ref t369), (.ref a364), (.ref a364)])) rfl (by rw [hml]; rfl) (Steps.refl _) (argsL := [(.ref ts)]) (rest := [(.ref t369), (.ref a364), (.ref a364)]) (lenOf pd_33 rfl) rfl (w0 rfl) (dq (dg dth 31 rfl)) (fun _ _ => ⟨rfl, rfl, (by decide : 8 + 0 ≤ _), (by decide : 39 + 0 ≤ _)⟩)
  dsimp only [Pt.U, Pt.locs, Pt.cells, Pt.slots] at X403 l403 y403 z403 st403 hQ403
  subst l403 y403 z403
  obtain ⟨rfl, Nq403, K403, B403⟩ := hQ403
  have N403 := Fr.app N398 Nq403
  have Ex404 : Ext h0 T403.heap := extKeep Ex399 K403 (allS le378 (allS le387 all0))
  have Ex406 : Ext h364 T403.heap := extKeep Ex401 K403 (allS le380 (allS le389 all0))
  have Ex407 : Ext T369.heap T403.heap := extKeep Ex402 K403 (allS le381 (allS le390 all0))
  refine R2 st403 ?_
  show Rch p e below T403 (mkF m 69 #[vR ta, vR ts, vR a350] [(.ref a373), (.ref t369), (.ref a364), (.ref a364)]) _
  obtain ⟨cq408, kq408, q408a, q408b, q408c⟩ := isOf hZ rfl B403.1
  obtain ⟨_, _, ⟨T408, L408, k408, n408⟩, -, X408, ⟨Lc408, hQ408, l408, y408, z408⟩, st408⟩ := X403.virtualBack hx (y := mN56) (z := mN56) hown (mw hZ hw 330 rfl) (mw hZ hw 331 rfl) (notFace_of_selects (args := #[]) (mw hZ hw 333 rfl)) (mw hZ hw 333 rfl) (mw hZ hw 332 rfl) (by decide) (backOf (W := 3) (rm_sbStr l Z a0 hw [] a373 va382 (0 + nt + 1 + ns) T403.heap n0 (Nat.le_trans Z0 Ex404.1) B403 (by omega) (CS.ext Ex404)) hZ (wq hw 334 rfl) (wq hw 255 rfl) (by decide) (by decide)) q408a q408c (g := (mkF m 69 #[vR ta, vR ts, vR a350] [(.ref a373), (.ref t369), (.ref a364), (.ref a364)])) rfl (by rw [hml]; rfl) (Steps.refl _) (argsL := []) (rest := [(.ref t369), (.ref a364), (.ref a364)]) (lenOf pd_35 rfl) rfl (w0 rfl) (dq (dg dth 32 rfl)) (fun _ _ => ⟨rfl, rfl, (by decide : 8 + 2 ≤ _), (by decide : 39 + 20 ≤ _)⟩)
  dsimp only [Pt.U, Pt.locs, Pt.cells, Pt.slots] at X408 l408 y408 z408 st408 hQ408
  subst l408 y408 z408
  obtain ⟨t408, rfl, Nq408, E408, le408_, EX408⟩ := hQ408
  have N408 := Fr.app N403 Nq408
  have Ex409 : Ext h0 T408.heap := Ex404.tr E408
  have Ex411 : Ext h364 T408.heap := Ex406.tr E408
  have Ex412 : Ext T369.heap T408.heap := Ex407.tr E408
  refine R2 st408 ?_
  show Rch p e below T408 (mkF m 72 #[vR ta, vR ts, vR a350] [(.ref t408), (.ref t369), (.ref a364), (.ref a364)]) _
  obtain ⟨_, _, ⟨T414, L414, k414, n414⟩, -, X414, ⟨Lc414, hQ414, l414, y414, z414⟩, st414⟩ := X408.specialBack hx (y := mN58) rfl hown (mw hZ hw 365 rfl) (mw hZ hw 90 rfl) (mw hZ hw 91 rfl) (by decide) (backOf (W := 1) (rm_chI l Z a0 hw [] a364 t369 t408 T408.heap n0 (Nat.le_trans Z0 Ex409.1) (Nat.le_trans Z0 le367) (A364.ext Ex411) ((D364 (Or.inr (wq hw 99 rfl)) (ty := (.object "java/util/List")) (by decide)).ext Ex411) ((D364 (Or.inr (wq hw 101 rfl)) (ty := (.object "java/lang/String")) (by decide)).ext Ex411)) hZ (wq hw 91 rfl) (wq hw 88 rfl) (by decide) (by decide)) (g := (mkF m 72 #[vR ta, vR ts, vR a350] [(.ref t408), (.ref t369), (.ref a364), (.ref a364)])) rfl (by rw [hml]; rfl) (Steps.refl _) (a := a364) (argsL := [(.ref t369), (.ref t408)]) (rest := [(.ref a364)]) (lenOf pd_36 rfl) rfl (w0 rfl) (dq (dg dth 33 rfl)) (fun _ _ => ⟨rfl, rfl, (by decide : 10 + 0 ≤ _), (by decide : 59 + 0 ≤ _)⟩)
  dsimp only [Pt.U, Pt.locs, Pt.cells, Pt.slots] at X414 l414 y414 z414 st414 hQ414
  subst l414 y414 z414
  obtain ⟨rfl, Nq414, K414, G414⟩ := hQ414
  have N414 := Fr.app N408 Nq414
  have Ex415 : Ext h0 T414.heap := extKeep Ex409 K414 (allS le367 all0)
  refine R2 st414 ?_
  show Rch p e below T414 (mkF m 75 #[vR ta, vR ts, vR a350] [(.ref a364)]) _
  have R9 := (R369.ext Ex412).keepC K414 (A364.ext Ex411)
  exact Rch.fin (Q := Q_th1 Z ta tl tx ts ea mr y0 nt ns h0 n0) X414 (v := some (.ref a364)) (fun h => by rw [Bd.returns] at h; cases h) (BodyLoose.notSynchronized Bd) (fun fs hr => retR X414 hx Bd.returns rfl rfl (dq (dg dth 34 rfl)) hr) ⟨a364, t369, t408, rfl, N414, Ex415, G414, R9⟩ (by decide) (by decide)
theorem pn_of1 : plainFor (⟨"com/example/ampersat/ampersat/index/MetaChains$Chain", "of", "(Ljava/lang/String;Lcom/example/ampersat/ampersat/index/MetaChains$Chain;)Lcom/example/ampersat/ampersat/index/MetaChains$Chain;"⟩ : MethodName) = true := plainFor_of_name (by first | (simp [plainName, overriddenIn]; done) | decide +kernel)
theorem ef_of1 (m : MethodId) (x0 : Addr) (x1 : Addr) : entryFrame m #[(.ref x0), (.ref x1)] 4 = mkF m 0 #[vR x0, vR x1, .unset, .unset] [] := by first | (simp [entryFrame, mkF, argsToLocals, Value.category]; done) | rfl
def Q_of1 (Z : State) (ta tl tx ts ea mr y0 : Addr) (nt ns : Nat) (h0 : Heap) (n0 : Nat) (v : Option Value) (h : Heap) (L : List Loc) : Prop := ∃ r t u, v = some (.ref r) ∧ Fr n0 L ∧ Ext h0 h ∧ Chn Z h r t u ∧ L12p Z h t ts y0
set_option maxRecDepth 65536 in
set_option maxHeartbeats 40000000 in
theorem rm_of1 (l : Launch) (Z : State) (a0 : Array Value) (hw : ∀ d ∈ tables_1, d.before a0 Z = true) (ws : List Jvm.Cond) (ta tl tx ts ea mr y0 : Addr) (nt ns : Nat) (h0 : Heap) (n0 : Nat) (Z0 : n0 ≤ h0.size) (HC : Chn Z h0 ta tl tx) (A : Al Z h0 tl ea 10 (1 : Int32) [(.ref y0)]) (MR : Mi Z "[Ljava/lang/Object;" mr) (SX : Sl Z h0 tx nt) (SS : Sl Z h0 ts ns) (hnt : nt ≤ 2) (hns : ns ≤ 2) (CS : Cmp Z h0) (EX0 : Exa Z h0 y0 "java/lang/String") :
    MetFree l mN72 (head1 (Jvm.Cond.code mN72 prog_12_method_2_code 4 (some (.object "com/example/ampersat/ampersat/index/MetaChains$Chain")) :: ws) rO43) (fun a U => a = #[(.ref ts), (.ref ta)] ∧ Z.Warmed39 U.vm ∧ U.heap = h0) (fun _ _ _ _ _ => True) (fun _ U o U' => ∃ v L, o = .returned v ∧ Q_of1 Z ta tl tx ts ea mr y0 nt ns h0 n0 v U'.heap L ∧ FrameEnd U o U' L rO43.cells rO43.slots) := by
  refine MetFree.of_bodySF pn_of1 hisR ?_
  intro p e s m args below meth c s₁ Bd hml0 hP hK
  obtain ⟨rfl, hZ, hh⟩ := hP
  have hx := Bd.exec
  have hby := Bd.bytes
  have dq := @hb _ _ hby
  have hml : c.maxLocals = 4 := hml0
  have hown : s.vm.findClass "com/example/ampersat/ampersat/index/MetaChains$Chain" = some m.cls := findClass_of_methodNamed Bd.named
  have X0 : Stand p l e rO43 s m #[(.ref ts), (.ref ta)] below meth c s₁ [] 0 0 := Stand.of_body Bd
  have e0 : s₁.heap = h0 := by rw [← hh, Bd.state]; rfl
  have N0 := Fr.nil n0
  show Rch p e below s₁ (entryFrame m #[(.ref ts), (.ref ta)] 4) (fun U o => ∃ v L, o = .returned v ∧ Q_of1 Z ta tl tx ts ea mr y0 nt ns h0 n0 v U.heap L ∧ FrameEnd s o U L rO43.cells rO43.slots)
  refine Rch.cast (ef_of1 m ts ta) ?_
  show Rch p e below s₁ (mkF m 0 #[vR ts, vR ta, .unset, .unset] []) _
  refine R1 (XS.aloadN X0.here hx rfl (dq (dg dof 0 rfl)) rfl rfl) ?_
  refine R1 (XT.ifnonnullYes X0.here hx rfl (pc0 := 1) (pc' := 20) rfl (dq (dg dof 1 rfl)) rfl (by decide) (by decide)) ?_
  show Rch p e below s₁ (mkF m 20 #[vR ts, vR ta, .unset, .unset] []) _
  obtain ⟨T417, h417, X417, e417, E417, A417, D417, -, st417⟩ := newO X0 hx hZ hown (wq hw 148 rfl) (wq hw 32 rfl) (wq hw 33 rfl) e0 (g := (mkF m 20 #[vR ts, vR ta, .unset, .unset] [])) rfl (dq (dg dof 2 rfl)) (by decide) (by decide)
  obtain ⟨a417, g417⟩ : ∃ z, z = h0.size := ⟨_, rfl⟩
  rw [← g417] at A417 D417 st417
  have Ex418 : Ext h0 h417 := E417
  have le419 : h0.size ≤ a417 := Nat.le_of_eq g417.symm
  refine R0_ st417 ?_
  show Rch p e below T417 (mkF m 23 #[vR ts, vR ta, .unset, .unset] [(.ref a417)]) _
  refine R1 (XS.dup X417.here hx rfl (dq (dg dof 3 rfl)) rfl rfl) ?_
  refine R1 (XS.aloadN X417.here hx rfl (dq (dg dof 4 rfl)) rfl rfl) ?_
  show Rch p e below T417 (mkF m 25 #[vR ts, vR ta, .unset, .unset] [(.ref ta), (.ref a417), (.ref a417)]) _
  obtain ⟨cq420, kq420, q420a, q420b, q420c⟩ := isOf hZ e417 (HC.ext Ex418).1
  obtain ⟨_, _, ⟨T420, L420, k420, n420⟩, -, X420, ⟨Lc420, hQ420, l420, y420, z420⟩, st420⟩ := X417.virtualBack hx (y := mN59) (z := mN59) hown (mw hZ hw 381 rfl) (mw hZ hw 382 rfl) (notFace_of_selects (args := #[]) (mw hZ hw 384 rfl)) (mw hZ hw 384 rfl) (mw hZ hw 383 rfl) (by decide) (backOf (W := 2) (rm_typ l Z a0 hw [] ta tl tx h417 n0 (Nat.le_trans Z0 Ex418.1) (HC.ext Ex418)) hZ (wq hw 385 rfl) (wq hw 88 rfl) (by decide) (by decide)) q420a q420c (g := (mkF m 25 #[vR ts, vR ta, .unset, .unset] [(.ref ta), (.ref a417), (.ref a417)])) rfl (by rw [hml]; rfl) (Steps.refl _) (argsL := []) (rest := [(.ref a417), (.ref a417)]) (lenOf pd_37 rfl) rfl (w0 rfl) (dq (dg dof 5 rfl)) (fun _ _ => ⟨rfl, e417, (by decide : 1 + 0 ≤ _), (by decide : 3 + 0 ≤ _)⟩)
  dsimp only [Pt.U, Pt.locs, Pt.cells, Pt.slots] at X420 l420 y420 z420 st420 hQ420
  subst l420 y420 z420
  obtain ⟨rfl, Nq420, e420⟩ := hQ420
  have N420 := Fr.app N0 Nq420
  refine R2 st420 ?_
  show Rch p e below T420 (mkF m 28 #[vR ts, vR ta, .unset, .unset] [(.ref tl), (.ref a417), (.ref a417)]) _
  obtain ⟨cq421, kq421, q421a, q421b, q421c⟩ := isOf hZ e420 (A.ext Ex418).1
  obtain ⟨_, _, ⟨T421, L421, k421, n421⟩, -, X421, ⟨Lc421, hQ421, l421, y421, z421⟩, st421⟩ := X420.interfaceBack hx (xi := mN66) (y := mN8) hown (mw hZ hw 107 rfl) (mw hZ hw 108 rfl) (mw hZ hw 109 rfl) (mw hZ hw 110 rfl) (mw hZ hw 111 rfl) (mw hZ hw 112 rfl) (mw hZ hw 113 rfl) (mw hZ hw 114 rfl) (by decide) (backOf (W := 2) (rm_alSize l Z a0 hw [] tl ea 10 (1 : Int32) [(.ref y0)] h417 n0 (Nat.le_trans Z0 Ex418.1) (A.ext Ex418)) hZ (wq hw 115 rfl) (wq hw 33 rfl) (by decide) (by decide)) q421a q421b q421c (g := (mkF m 28 #[vR ts, vR ta, .unset, .unset] [(.ref tl), (.ref a417), (.ref a417)])) rfl (by rw [hml]; rfl) (Steps.refl _) (argsL := []) (rest := [(.ref a417), (.ref a417)]) (lenOf pd_20 rfl) rfl (w0 rfl) (dq (dg dof 6 rfl)) (fun _ _ => ⟨rfl, e420, (by decide : 1 + 0 ≤ _), (by decide : 3 + 0 ≤ _)⟩)
  dsimp only [Pt.U, Pt.locs, Pt.cells, Pt.slots] at X421 l421 y421 z421 st421 hQ421
  subst l421 y421 z421
  obtain ⟨rfl, Nq421, e421⟩ := hQ421
  have N421 := Fr.app N420 Nq421
  refine R2 st421 ?_
  show Rch p e below T421 (mkF m 33 #[vR ts, vR ta, .unset, .unset] [(.int (1 : Int32)), (.ref a417), (.ref a417)]) _
  refine R1 (XS.iconst X421.here hx rfl (dq (dg dof 7 rfl)) ) ?_
  refine R1 (XS.iadd X421.here hx rfl (dq (dg dof 8 rfl)) rfl) ?_
  show Rch p e below T421 (mkF m 35 #[vR ts, vR ta, .unset, .unset] [(.int ((1 : Int32) + (1 : Int32))), (.ref a417), (.ref a417)]) _
  rw [show ((1 : Int32) + (1 : Int32)) = (2 : Int32) from by decide]
  show Rch p e below T421 (mkF m 35 #[vR ts, vR ta, .unset, .unset] [(.int (2 : Int32)), (.ref a417), (.ref a417)]) _
  obtain ⟨_, _, ⟨T422, L422, k422, n422⟩, -, X422, ⟨Lc422, hQ422, l422, y422, z422⟩, st422⟩ := X421.specialBack hx (y := mN18) rfl hown (mw hZ hw 149 rfl) (mw hZ hw 150 rfl) (mw hZ hw 151 rfl) (by decide) (backOf (W := 1) (rm_alInitN l Z a0 hw [] a417 (2 : Int32) .null h417 n0 (Nat.le_trans Z0 Ex418.1) (Nat.le_trans Z0 le419) A417 ((D417 (Or.inl (wq hw 54 rfl)) (ty := (.array (.object "java/lang/Object"))) (by decide)).ext Ext.rf) ((D417 (Or.inl (wq hw 63 rfl)) (ty := .int) (by decide)).ext Ext.rf) ((D417 (Or.inl (wq hw 51 rfl)) (ty := .int) (by decide)).ext Ext.rf) (by decide) (by decide) (by decide)) hZ (wq hw 151 rfl) (wq hw 33 rfl) (by decide) (by decide)) (g := (mkF m 35 #[vR ts, vR ta, .unset, .unset] [(.int (2 : Int32)), (.ref a417), (.ref a417)])) rfl (by rw [hml]; rfl) (Steps.refl _) (a := a417) (argsL := [(.int (2 : Int32))]) (rest := [(.ref a417)]) (lenOf pd_19 rfl) rfl (w0 rfl) (dq (dg dof 9 rfl)) (fun _ _ => ⟨rfl, e421, (by decide : 1 + 1 ≤ _), (by decide : 3 + 4 ≤ _)⟩)
  dsimp only [Pt.U, Pt.locs, Pt.cells, Pt.slots] at X422 l422 y422 z422 st422 hQ422
  subst l422 y422 z422
  obtain ⟨ea422, rfl, Nq422, K422, le422_, A422⟩ := hQ422
  have N422 := Fr.app N421 Nq422
  have Ex423 : Ext h0 T422.heap := extKeep Ex418 K422 (allS le419 all0)
  refine R2 st422 ?_
  show Rch p e below T422 (mkF m 38 #[vR ts, vR ta, .unset, .unset] [(.ref a417)]) _
  have le424 : h0.size ≤ ea422 := Nat.le_trans Ex418.1 le422_
  refine R1 (XS.astoreN X422.here hx rfl (dq (dg dof 10 rfl)) rfl rfl (l' := #[vR ts, vR ta, .unset, vR a417]) rfl) ?_
  refine R1 (XS.aloadN X422.here hx rfl (dq (dg dof 11 rfl)) rfl rfl) ?_
  refine R1 (XS.aloadN X422.here hx rfl (dq (dg dof 12 rfl)) rfl rfl) ?_
  show Rch p e below T422 (mkF m 41 #[vR ts, vR ta, .unset, vR a417] [(.ref ts), (.ref a417)]) _
  obtain ⟨cq426, kq426, q426a, q426b, q426c⟩ := isOf hZ rfl A422.1
  obtain ⟨_, _, ⟨T426, L426, k426, n426⟩, -, X426, ⟨Lc426, hQ426, l426, y426, z426⟩, st426⟩ := X422.interfaceBack hx (xi := mN71) (y := mN7) hown (mw hZ hw 192 rfl) (mw hZ hw 193 rfl) (mw hZ hw 194 rfl) (mw hZ hw 195 rfl) (mw hZ hw 57 rfl) (mw hZ hw 196 rfl) (mw hZ hw 197 rfl) (mw hZ hw 114 rfl) (by decide) (backOf (W := 0) (rm_addR l Z a0 hw [] a417 ts ea422 (2 : Int32) (0 : Int32) [] T422.heap n0 (Nat.le_trans Z0 Ex423.1) (Nat.le_trans Z0 le419) (Nat.le_trans Z0 le424) A422 (SS.ext Ex423).exa (by decide) ⟨by decide, by decide⟩ rfl) hZ (wq hw 59 rfl) (wq hw 33 rfl) (by decide) (by decide)) q426a q426b q426c (g := (mkF m 41 #[vR ts, vR ta, .unset, vR a417] [(.ref ts), (.ref a417)])) rfl (by rw [hml]; rfl) (Steps.refl _) (argsL := [(.ref ts)]) (rest := []) (lenOf pd_32 rfl) rfl (w0 rfl) (dq (dg dof 13 rfl)) (fun _ _ => ⟨rfl, rfl, (by decide : 2 + 0 ≤ _), (by decide : 7 + 0 ≤ _)⟩)
  dsimp only [Pt.U, Pt.locs, Pt.cells, Pt.slots] at X426 l426 y426 z426 st426 hQ426
  subst l426 y426 z426
  obtain ⟨rfl, Nq426, K426, A426⟩ := hQ426
  have N426 := Fr.app N422 Nq426
  have Ex427 : Ext h0 T426.heap := extKeep Ex423 K426 (allS le419 (allS le424 all0))
  refine R2 st426 ?_
  show Rch p e below T426 (mkF m 46 #[vR ts, vR ta, .unset, vR a417] [(.int (1 : Int32))]) _
  have AL426 : Al Z T426.heap a417 ea422 (2 : Int32) (1 : Int32) [(.ref ts)] := by have q := A426; rw [show (0 : Int32) + (1 : Int32) = (1 : Int32) from by decide] at q; exact q
  refine R1 (XT.pop X426.here hx rfl (dq (dg dof 14 rfl)) rfl rfl) ?_
  refine R1 (XS.aloadN X426.here hx rfl (dq (dg dof 15 rfl)) rfl rfl) ?_
  refine R1 (XS.aloadN X426.here hx rfl (dq (dg dof 16 rfl)) rfl rfl) ?_
  show Rch p e below T426 (mkF m 49 #[vR ts, vR ta, .unset, vR a417] [(.ref ta), (.ref a417)]) _
  obtain ⟨cq428, kq428, q428a, q428b, q428c⟩ := isOf hZ rfl (HC.ext Ex427).1
  obtain ⟨_, _, ⟨T428, L428, k428, n428⟩, -, X428, ⟨Lc428, hQ428, l428, y428, z428⟩, st428⟩ := X426.virtualBack hx (y := mN59) (z := mN59) hown (mw hZ hw 381 rfl) (mw hZ hw 382 rfl) (notFace_of_selects (args := #[]) (mw hZ hw 384 rfl)) (mw hZ hw 384 rfl) (mw hZ hw 383 rfl) (by decide) (backOf (W := 1) (rm_typ l Z a0 hw [] ta tl tx T426.heap n0 (Nat.le_trans Z0 Ex427.1) (HC.ext Ex427)) hZ (wq hw 385 rfl) (wq hw 88 rfl) (by decide) (by decide)) q428a q428c (g := (mkF m 49 #[vR ts, vR ta, .unset, vR a417] [(.ref ta), (.ref a417)])) rfl (by rw [hml]; rfl) (Steps.refl _) (argsL := []) (rest := [(.ref a417)]) (lenOf pd_37 rfl) rfl (w0 rfl) (dq (dg dof 17 rfl)) (fun _ _ => ⟨rfl, rfl, (by decide : 2 + 0 ≤ _), (by decide : 7 + 0 ≤ _)⟩)
  dsimp only [Pt.U, Pt.locs, Pt.cells, Pt.slots] at X428 l428 y428 z428 st428 hQ428
  subst l428 y428 z428
  obtain ⟨rfl, Nq428, e428⟩ := hQ428
  have N428 := Fr.app N426 Nq428
  refine R2 st428 ?_
  show Rch p e below T428 (mkF m 52 #[vR ts, vR ta, .unset, vR a417] [(.ref tl), (.ref a417)]) _
  obtain ⟨cq429, kq429, q429a, q429b, q429c⟩ := isOf hZ e428 AL426.1
  obtain ⟨_, _, ⟨T429, L429, k429, n429⟩, -, X429, ⟨Lc429, hQ429, l429, y429, z429⟩, st429⟩ := X428.interfaceBack hx (xi := mN70) (y := mN19) hown (mw hZ hw 152 rfl) (mw hZ hw 153 rfl) (mw hZ hw 154 rfl) (mw hZ hw 155 rfl) (mw hZ hw 156 rfl) (mw hZ hw 157 rfl) (mw hZ hw 158 rfl) (mw hZ hw 114 rfl) (by decide) (backOf (W := 0) (rm_addAll l Z a0 hw [] a417 ea422 tl ea mr (2 : Int32) (1 : Int32) 10 (1 : Int32) [(.ref ts)] [(.ref y0)] [(.ref y0)] T426.heap n0 (Nat.le_trans Z0 Ex427.1) (Nat.le_trans Z0 le419) (Nat.le_trans Z0 le424) AL426 (A.ext Ex427) MR (by decide) (by decide) (by decide) rfl (fun v hv => by simp only [List.mem_cons, List.not_mem_nil, or_false] at hv; rcases hv with rfl <;> first | exact ⟨_, rfl, (EX0.ext Ex427)⟩) (by decide) (by decide) (by decide) rfl (Nat.le_of_ble_eq_true rfl)) hZ (wq hw 159 rfl) (wq hw 33 rfl) (by decide) (by decide)) q429a q429b q429c (g := (mkF m 52 #[vR ts, vR ta, .unset, vR a417] [(.ref tl), (.ref a417)])) rfl (by rw [hml]; rfl) (Steps.refl _) (argsL := [(.ref tl)]) (rest := []) (lenOf pd_31 rfl) rfl (w0 rfl) (dq (dg dof 18 rfl)) (fun _ _ => ⟨rfl, e428, (by decide : 2 + 1 ≤ _), (by decide : 7 + 4 ≤ _)⟩)
  dsimp only [Pt.U, Pt.locs, Pt.cells, Pt.slots] at X429 l429 y429 z429 st429 hQ429
  subst l429 y429 z429
  obtain ⟨rfl, Nq429, K429, A429⟩ := hQ429
  have N429 := Fr.app N428 Nq429
  have Ex430 : Ext h0 T429.heap := extKeep Ex427 K429 (allS le419 (allS le424 all0))
  refine R2 st429 ?_
  show Rch p e below T429 (mkF m 57 #[vR ts, vR ta, .unset, vR a417] [(.int (1 : Int32))]) _
  have AL429 : Al Z T429.heap a417 ea422 (2 : Int32) (2 : Int32) [(.ref ts), (.ref y0)] := by have q := A429; rw [show (1 : Int32) + (1 : Int32) = (2 : Int32) from by decide] at q; exact q
  refine R1 (XT.pop X429.here hx rfl (dq (dg dof 19 rfl)) rfl rfl) ?_
  show Rch p e below T429 (mkF m 58 #[vR ts, vR ta, .unset, vR a417] []) _
  obtain ⟨T431, h431, X431, e431, E431, A431, D431, -, st431⟩ := newO X429 hx hZ hown (wq hw 198 rfl) (wq hw 87 rfl) (wq hw 88 rfl) rfl (g := (mkF m 58 #[vR ts, vR ta, .unset, vR a417] [])) rfl (dq (dg dof 20 rfl)) (by decide) (by decide)
  obtain ⟨a431, g431⟩ : ∃ z, z = T429.heap.size := ⟨_, rfl⟩
  rw [← g431] at A431 D431 st431
  have Ex432 : Ext h0 h431 := Ex430.tr E431
  have Ex433 : Ext T429.heap h431 := E431
  have le434 : h0.size ≤ a431 := Nat.le_trans Ex430.1 (Nat.le_of_eq g431.symm)
  refine R0_ st431 ?_
  show Rch p e below T431 (mkF m 61 #[vR ts, vR ta, .unset, vR a417] [(.ref a431)]) _
  refine R1 (XS.dup X431.here hx rfl (dq (dg dof 21 rfl)) rfl rfl) ?_
  refine R1 (XS.aloadN X431.here hx rfl (dq (dg dof 22 rfl)) rfl rfl) ?_
  show Rch p e below T431 (mkF m 63 #[vR ts, vR ta, .unset, vR a417] [(.ref a417), (.ref a431), (.ref a431)]) _
  obtain ⟨_, _, ⟨T436, L436, k436, n436⟩, -, X436, ⟨Lc436, hQ436, l436, y436, z436⟩, st436⟩ := Jvm.LawKit.callS X431 hx (y := mN29) hown (mw hZ hw 199 rfl) (mw hZ hw 200 rfl) (mw hZ hw 201 rfl) (mw hZ hw 202 rfl) (by decide) (backOf (W := 2) (rm_cpo2 l Z a0 hw [] a417 ea422 mr ts y0 h431 n0 (Nat.le_trans Z0 Ex432.1) (AL429.ext Ex433) MR (SS.ext Ex432).exa (EX0.ext Ex432)) hZ (wq hw 202 rfl) (wq hw 201 rfl) (by decide) (by decide)) (g := (mkF m 63 #[vR ts, vR ta, .unset, vR a417] [(.ref a417), (.ref a431), (.ref a431)])) rfl (by rw [hml]; rfl) (argsL := [(.ref a417)]) (rest := [(.ref a431), (.ref a431)]) (lenOf pd_13 rfl) rfl (w0 rfl) (dq (dg dof 23 rfl)) (fun _ _ => ⟨rfl, e431, (by decide : 4 + 2 ≤ _), (by decide : 13 + 6 ≤ _)⟩)
  dsimp only [Pt.U, Pt.locs, Pt.cells, Pt.slots] at X436 l436 y436 z436 st436 hQ436
  subst l436 y436 z436
  obtain ⟨t436, rfl, Nq436, E436, le436_, R436⟩ := hQ436
  have N436 := Fr.app N429 Nq436
  have Ex437 : Ext h0 T436.heap := Ex432.tr E436
  have Ex439 : Ext h431 T436.heap := E436
  refine R0_ st436 ?_
  show Rch p e below T436 (mkF m 66 #[vR ts, vR ta, .unset, vR a417] [(.ref t436), (.ref a431), (.ref a431)]) _
  obtain ⟨T440, h440, X440, e440, E440, A440, D440, -, st440⟩ := newO X436 hx hZ hown (wq hw 253 rfl) (wq hw 254 rfl) (wq hw 255 rfl) rfl (g := (mkF m 66 #[vR ts, vR ta, .unset, vR a417] [(.ref t436), (.ref a431), (.ref a431)])) rfl (dq (dg dof 24 rfl)) (by decide) (by decide)
  obtain ⟨a440, g440⟩ : ∃ z, z = T436.heap.size := ⟨_, rfl⟩
  rw [← g440] at A440 D440 st440
  have Ex441 : Ext h0 h440 := Ex437.tr E440
  have Ex443 : Ext h431 h440 := Ex439.tr E440
  have Ex444 : Ext T436.heap h440 := E440
  have le445 : h0.size ≤ a440 := Nat.le_trans Ex437.1 (Nat.le_of_eq g440.symm)
  have le447 : h431.size ≤ a440 := Nat.le_trans Ex439.1 (Nat.le_of_eq g440.symm)
  have le448 : T436.heap.size ≤ a440 := Nat.le_of_eq g440.symm
  refine R0_ st440 ?_
  show Rch p e below T440 (mkF m 69 #[vR ts, vR ta, .unset, vR a417] [(.ref a440), (.ref t436), (.ref a431), (.ref a431)]) _
  refine R1 (XS.dup X440.here hx rfl (dq (dg dof 25 rfl)) rfl rfl) ?_
  show Rch p e below T440 (mkF m 70 #[vR ts, vR ta, .unset, vR a417] [(.ref a440), (.ref a440), (.ref t436), (.ref a431), (.ref a431)]) _
  obtain ⟨_, _, ⟨T449, L449, k449, n449⟩, -, X449, ⟨Lc449, hQ449, l449, y449, z449⟩, st449⟩ := X440.specialBack hx (y := mN38) rfl hown (mw hZ hw 256 rfl) (mw hZ hw 257 rfl) (mw hZ hw 258 rfl) (by decide) (backOf (W := 4) (rm_sbInit l Z a0 hw [] a440 h440 n0 (Nat.le_trans Z0 Ex441.1) (Nat.le_trans Z0 le445) A440 ((D440 (Or.inl (wq hw 268 rfl)) (ty := (.array .byte)) (by decide)).ext Ext.rf) ((D440 (Or.inl (wq hw 270 rfl)) (ty := .byte) (by decide)).ext Ext.rf) ((D440 (Or.inl (wq hw 292 rfl)) (ty := .int) (by decide)).ext Ext.rf) (CS.ext Ex441)) hZ (wq hw 258 rfl) (wq hw 255 rfl) (by decide) (by decide)) (g := (mkF m 70 #[vR ts, vR ta, .unset, vR a417] [(.ref a440), (.ref a440), (.ref t436), (.ref a431), (.ref a431)])) rfl (by rw [hml]; rfl) (Steps.refl _) (a := a440) (argsL := []) (rest := [(.ref a440), (.ref t436), (.ref a431), (.ref a431)]) (lenOf pd_0 rfl) rfl (w0 rfl) (dq (dg dof 26 rfl)) (fun _ _ => ⟨rfl, e440, (by decide : 7 + 1 ≤ _), (by decide : 23 + 16 ≤ _)⟩)
  dsimp only [Pt.U, Pt.locs, Pt.cells, Pt.slots] at X449 l449 y449 z449 st449 hQ449
  subst l449 y449 z449
  obtain ⟨va449, rfl, Nq449, K449, le449_, B449⟩ := hQ449
  have N449 := Fr.app N436 Nq449
  have Ex450 : Ext h0 T449.heap := extKeep Ex441 K449 (allS le445 all0)
  have Ex452 : Ext h431 T449.heap := extKeep Ex443 K449 (allS le447 all0)
  have Ex453 : Ext T436.heap T449.heap := extKeep Ex444 K449 (allS le448 all0)
  refine R2 st449 ?_
  show Rch p e below T449 (mkF m 73 #[vR ts, vR ta, .unset, vR a417] [(.ref a440), (.ref t436), (.ref a431), (.ref a431)]) _
  have le454 : h0.size ≤ va449 := Nat.le_trans Ex441.1 le449_
  have le456 : h431.size ≤ va449 := Nat.le_trans Ex443.1 le449_
  have le457 : T436.heap.size ≤ va449 := Nat.le_trans Ex444.1 le449_
  refine R1 (XS.aloadN X449.here hx rfl (dq (dg dof 27 rfl)) rfl rfl) ?_
  show Rch p e below T449 (mkF m 74 #[vR ts, vR ta, .unset, vR a417] [(.ref ts), (.ref a440), (.ref t436), (.ref a431), (.ref a431)]) _
  obtain ⟨cq459, kq459, q459a, q459b, q459c⟩ := isOf hZ rfl B449.1
  obtain ⟨_, _, ⟨T459, L459, k459, n459⟩, -, X459, ⟨Lc459, hQ459, l459, y459, z459⟩, st459⟩ := X449.virtualBack hx (y := mN48) (z := mN48) hown (mw hZ hw 271 rfl) (mw hZ hw 272 rfl) (notFace_of_selects (args := #[]) (mw hZ hw 274 rfl)) (mw hZ hw 274 rfl) (mw hZ hw 273 rfl) (by decide) (backOf (W := 3) (rm_sbApp l Z a0 hw [] a440 va449 ts (0) ns T449.heap n0 (Nat.le_trans Z0 Ex450.1) B449 (SS.ext Ex450) (Nat.le_trans Z0 le445) (Nat.le_trans Z0 le454) (by omega) (CS.ext Ex450)) hZ (wq hw 275 rfl) (wq hw 255 rfl) (by decide) (by decide)) q459a q459c (g := (mkF m 74 #[vR ts, vR ta, .unset, vR a417] [(.ref ts), (.ref a440), (.ref t436), (.ref a431), (.ref a431)])) rfl (by rw [hml]; rfl) (Steps.refl _) (argsL := [(.ref ts)]) (rest := [(.ref t436), (.ref a431), (.ref a431)]) (lenOf pd_33 rfl) rfl (w0 rfl) (dq (dg dof 28 rfl)) (fun _ _ => ⟨rfl, rfl, (by decide : 8 + 0 ≤ _), (by decide : 39 + 0 ≤ _)⟩)
  dsimp only [Pt.U, Pt.locs, Pt.cells, Pt.slots] at X459 l459 y459 z459 st459 hQ459
  subst l459 y459 z459
  obtain ⟨rfl, Nq459, K459, B459⟩ := hQ459
  have N459 := Fr.app N449 Nq459
  have Ex460 : Ext h0 T459.heap := extKeep Ex450 K459 (allS le445 (allS le454 all0))
  have Ex462 : Ext h431 T459.heap := extKeep Ex452 K459 (allS le447 (allS le456 all0))
  have Ex463 : Ext T436.heap T459.heap := extKeep Ex453 K459 (allS le448 (allS le457 all0))
  refine R2 st459 ?_
  show Rch p e below T459 (mkF m 77 #[vR ts, vR ta, .unset, vR a417] [(.ref a440), (.ref t436), (.ref a431), (.ref a431)]) _
  refine R1 (XS.bipush X459.here hx rfl (dq (dg dof 29 rfl)) ) ?_
  show Rch p e below T459 (mkF m 79 #[vR ts, vR ta, .unset, vR a417] [(.int (32 : Int32)), (.ref a440), (.ref t436), (.ref a431), (.ref a431)]) _
  obtain ⟨cq464, kq464, q464a, q464b, q464c⟩ := isOf hZ rfl B459.1
  obtain ⟨_, _, ⟨T464, L464, k464, n464⟩, -, X464, ⟨Lc464, hQ464, l464, y464, z464⟩, st464⟩ := X459.virtualBack hx (y := mN50) (z := mN50) hown (mw hZ hw 315 rfl) (mw hZ hw 316 rfl) (notFace_of_selects (args := #[]) (mw hZ hw 318 rfl)) (mw hZ hw 318 rfl) (mw hZ hw 317 rfl) (by decide) (backOf (W := 3) (rm_sbAppC l Z a0 hw [] a440 va449 (0 + ns) (32 : Int32) T459.heap n0 (Nat.le_trans Z0 Ex460.1) B459 (Nat.le_trans Z0 le445) (Nat.le_trans Z0 le454) (by omega) (by decide) (CS.ext Ex460)) hZ (wq hw 319 rfl) (wq hw 255 rfl) (by decide) (by decide)) q464a q464c (g := (mkF m 79 #[vR ts, vR ta, .unset, vR a417] [(.int (32 : Int32)), (.ref a440), (.ref t436), (.ref a431), (.ref a431)])) rfl (by rw [hml]; rfl) (Steps.refl _) (argsL := [(.int (32 : Int32))]) (rest := [(.ref t436), (.ref a431), (.ref a431)]) (lenOf pd_34 rfl) rfl (w0 rfl) (dq (dg dof 30 rfl)) (fun _ _ => ⟨rfl, rfl, (by decide : 8 + 0 ≤ _), (by decide : 39 + 0 ≤ _)⟩)
  dsimp only [Pt.U, Pt.locs, Pt.cells, Pt.slots] at X464 l464 y464 z464 st464 hQ464
  subst l464 y464 z464
  obtain ⟨rfl, Nq464, K464, B464⟩ := hQ464
  have N464 := Fr.app N459 Nq464
  have Ex465 : Ext h0 T464.heap := extKeep Ex460 K464 (allS le445 (allS le454 all0))
  have Ex467 : Ext h431 T464.heap := extKeep Ex462 K464 (allS le447 (allS le456 all0))
  have Ex468 : Ext T436.heap T464.heap := extKeep Ex463 K464 (allS le448 (allS le457 all0))
  refine R2 st464 ?_
  show Rch p e below T464 (mkF m 82 #[vR ts, vR ta, .unset, vR a417] [(.ref a440), (.ref t436), (.ref a431), (.ref a431)]) _
  refine R1 (XS.aloadN X464.here hx rfl (dq (dg dof 31 rfl)) rfl rfl) ?_
  show Rch p e below T464 (mkF m 83 #[vR ts, vR ta, .unset, vR a417] [(.ref ta), (.ref a440), (.ref t436), (.ref a431), (.ref a431)]) _
  obtain ⟨cq469, kq469, q469a, q469b, q469c⟩ := isOf hZ rfl (HC.ext Ex465).1
  obtain ⟨_, _, ⟨T469, L469, k469, n469⟩, -, X469, ⟨Lc469, hQ469, l469, y469, z469⟩, st469⟩ := X464.virtualBack hx (y := mN60) (z := mN60) hown (mw hZ hw 386 rfl) (mw hZ hw 387 rfl) (notFace_of_selects (args := #[]) (mw hZ hw 389 rfl)) (mw hZ hw 389 rfl) (mw hZ hw 388 rfl) (by decide) (backOf (W := 4) (rm_txt l Z a0 hw [] ta tl tx T464.heap n0 (Nat.le_trans Z0 Ex465.1) (HC.ext Ex465)) hZ (wq hw 390 rfl) (wq hw 88 rfl) (by decide) (by decide)) q469a q469c (g := (mkF m 83 #[vR ts, vR ta, .unset, vR a417] [(.ref ta), (.ref a440), (.ref t436), (.ref a431), (.ref a431)])) rfl (by rw [hml]; rfl) (Steps.refl _) (argsL := []) (rest := [(.ref a440), (.ref t436), (.ref a431), (.ref a431)]) (lenOf pd_35 rfl) rfl (w0 rfl) (dq (dg dof 32 rfl)) (fun _ _ => ⟨rfl, rfl, (by decide : 8 + 0 ≤ _), (by decide : 39 + 0 ≤ _)⟩)
  dsimp only [Pt.U, Pt.locs, Pt.cells, Pt.slots] at X469 l469 y469 z469 st469 hQ469
  subst l469 y469 z469
  obtain ⟨rfl, Nq469, e469⟩ := hQ469
  have N469 := Fr.app N464 Nq469
  refine R2 st469 ?_
  show Rch p e below T469 (mkF m 86 #[vR ts, vR ta, .unset, vR a417] [(.ref tx), (.ref a440), (.ref t436), (.ref a431), (.ref a431)]) _
  obtain ⟨cq470, kq470, q470a, q470b, q470c⟩ := isOf hZ e469 B464.1
  obtain ⟨_, _, ⟨T470, L470, k470, n470⟩, -, X470, ⟨Lc470, hQ470, l470, y470, z470⟩, st470⟩ := X469.virtualBack hx (y := mN48) (z := mN48) hown (mw hZ hw 271 rfl) (mw hZ hw 272 rfl) (notFace_of_selects (args := #[]) (mw hZ hw 274 rfl)) (mw hZ hw 274 rfl) (mw hZ hw 273 rfl) (by decide) (backOf (W := 3) (rm_sbApp l Z a0 hw [] a440 va449 tx (0 + ns + 1) nt T464.heap n0 (Nat.le_trans Z0 Ex465.1) B464 (SX.ext Ex465) (Nat.le_trans Z0 le445) (Nat.le_trans Z0 le454) (by omega) (CS.ext Ex465)) hZ (wq hw 275 rfl) (wq hw 255 rfl) (by decide) (by decide)) q470a q470c (g := (mkF m 86 #[vR ts, vR ta, .unset, vR a417] [(.ref tx), (.ref a440), (.ref t436), (.ref a431), (.ref a431)])) rfl (by rw [hml]; rfl) (Steps.refl _) (argsL := [(.ref tx)]) (rest := [(.ref t436), (.ref a431), (.ref a431)]) (lenOf pd_33 rfl) rfl (w0 rfl) (dq (dg dof 33 rfl)) (fun _ _ => ⟨rfl, e469, (by decide : 8 + 0 ≤ _), (by decide : 39 + 0 ≤ _)⟩)
  dsimp only [Pt.U, Pt.locs, Pt.cells, Pt.slots] at X470 l470 y470 z470 st470 hQ470
  subst l470 y470 z470
  obtain ⟨rfl, Nq470, K470, B470⟩ := hQ470
  have N470 := Fr.app N469 Nq470
  have Ex471 : Ext h0 T470.heap := extKeep Ex465 K470 (allS le445 (allS le454 all0))
  have Ex473 : Ext h431 T470.heap := extKeep Ex467 K470 (allS le447 (allS le456 all0))
  have Ex474 : Ext T436.heap T470.heap := extKeep Ex468 K470 (allS le448 (allS le457 all0))
  refine R2 st470 ?_
  show Rch p e below T470 (mkF m 89 #[vR ts, vR ta, .unset, vR a417] [(.ref a440), (.ref t436), (.ref a431), (.ref a431)]) _
  obtain ⟨cq475, kq475, q475a, q475b, q475c⟩ := isOf hZ rfl B470.1
  obtain ⟨_, _, ⟨T475, L475, k475, n475⟩, -, X475, ⟨Lc475, hQ475, l475, y475, z475⟩, st475⟩ := X470.virtualBack hx (y := mN56) (z := mN56) hown (mw hZ hw 330 rfl) (mw hZ hw 331 rfl) (notFace_of_selects (args := #[]) (mw hZ hw 333 rfl)) (mw hZ hw 333 rfl) (mw hZ hw 332 rfl) (by decide) (backOf (W := 3) (rm_sbStr l Z a0 hw [] a440 va449 (0 + ns + 1 + nt) T470.heap n0 (Nat.le_trans Z0 Ex471.1) B470 (by omega) (CS.ext Ex471)) hZ (wq hw 334 rfl) (wq hw 255 rfl) (by decide) (by decide)) q475a q475c (g := (mkF m 89 #[vR ts, vR ta, .unset, vR a417] [(.ref a440), (.ref t436), (.ref a431), (.ref a431)])) rfl (by rw [hml]; rfl) (Steps.refl _) (argsL := []) (rest := [(.ref t436), (.ref a431), (.ref a431)]) (lenOf pd_35 rfl) rfl (w0 rfl) (dq (dg dof 34 rfl)) (fun _ _ => ⟨rfl, rfl, (by decide : 8 + 2 ≤ _), (by decide : 39 + 20 ≤ _)⟩)
  dsimp only [Pt.U, Pt.locs, Pt.cells, Pt.slots] at X475 l475 y475 z475 st475 hQ475
  subst l475 y475 z475
  obtain ⟨t475, rfl, Nq475, E475, le475_, EX475⟩ := hQ475
  have N475 := Fr.app N470 Nq475
  have Ex476 : Ext h0 T475.heap := Ex471.tr E475
  have Ex478 : Ext h431 T475.heap := Ex473.tr E475
  have Ex479 : Ext T436.heap T475.heap := Ex474.tr E475
  refine R2 st475 ?_
  show Rch p e below T475 (mkF m 92 #[vR ts, vR ta, .unset, vR a417] [(.ref t475), (.ref t436), (.ref a431), (.ref a431)]) _
  obtain ⟨_, _, ⟨T481, L481, k481, n481⟩, -, X481, ⟨Lc481, hQ481, l481, y481, z481⟩, st481⟩ := X475.specialBack hx (y := mN58) rfl hown (mw hZ hw 365 rfl) (mw hZ hw 90 rfl) (mw hZ hw 91 rfl) (by decide) (backOf (W := 1) (rm_chI l Z a0 hw [] a431 t436 t475 T475.heap n0 (Nat.le_trans Z0 Ex476.1) (Nat.le_trans Z0 le434) (A431.ext Ex478) ((D431 (Or.inr (wq hw 99 rfl)) (ty := (.object "java/util/List")) (by decide)).ext Ex478) ((D431 (Or.inr (wq hw 101 rfl)) (ty := (.object "java/lang/String")) (by decide)).ext Ex478)) hZ (wq hw 91 rfl) (wq hw 88 rfl) (by decide) (by decide)) (g := (mkF m 92 #[vR ts, vR ta, .unset, vR a417] [(.ref t475), (.ref t436), (.ref a431), (.ref a431)])) rfl (by rw [hml]; rfl) (Steps.refl _) (a := a431) (argsL := [(.ref t436), (.ref t475)]) (rest := [(.ref a431)]) (lenOf pd_36 rfl) rfl (w0 rfl) (dq (dg dof 35 rfl)) (fun _ _ => ⟨rfl, rfl, (by decide : 10 + 0 ≤ _), (by decide : 59 + 0 ≤ _)⟩)
  dsimp only [Pt.U, Pt.locs, Pt.cells, Pt.slots] at X481 l481 y481 z481 st481 hQ481
  subst l481 y481 z481
  obtain ⟨rfl, Nq481, K481, G481⟩ := hQ481
  have N481 := Fr.app N475 Nq481
  have Ex482 : Ext h0 T481.heap := extKeep Ex476 K481 (allS le434 all0)
  refine R2 st481 ?_
  show Rch p e below T481 (mkF m 95 #[vR ts, vR ta, .unset, vR a417] [(.ref a431)]) _
  have R9 := (R436.ext Ex479).keepC K481 (A431.ext Ex478)
  refine R1 (XS.astoreN X481.here hx rfl (dq (dg dof 36 rfl)) rfl rfl (l' := #[vR ts, vR ta, vR a431, vR a417]) rfl) ?_
  refine R1 (XS.aloadN X481.here hx rfl (dq (dg dof 37 rfl)) rfl rfl) ?_
  show Rch p e below T481 (mkF m 97 #[vR ts, vR ta, vR a431, vR a417] [(.ref a431)]) _
  exact Rch.fin (Q := Q_of1 Z ta tl tx ts ea mr y0 nt ns h0 n0) X481 (v := some (.ref a431)) (fun h => by rw [Bd.returns] at h; cases h) (BodyLoose.notSynchronized Bd) (fun fs hr => retR X481 hx Bd.returns rfl rfl (dq (dg dof 38 rfl)) hr) ⟨a431, t436, t475, rfl, N481, Ex482, G481, R9⟩ (by decide) (by decide)
def Q_th2 (Z : State) (ta tl tx ts ea mr y0 y1 : Addr) (nt ns : Nat) (h0 : Heap) (n0 : Nat) (v : Option Value) (h : Heap) (L : List Loc) : Prop := ∃ r t u, v = some (.ref r) ∧ Fr n0 L ∧ Ext h0 h ∧ Chn Z h r t u ∧ LNp Z h t (3 : Int32) [(.ref y0), (.ref y1), (.ref ts)]
set_option maxRecDepth 65536 in
set_option maxHeartbeats 40000000 in
theorem rm_th2 (l : Launch) (Z : State) (a0 : Array Value) (hw : ∀ d ∈ tables_1, d.before a0 Z = true) (ws : List Jvm.Cond) (ta tl tx ts ea mr y0 y1 : Addr) (nt ns : Nat) (h0 : Heap) (n0 : Nat) (Z0 : n0 ≤ h0.size) (HC : Chn Z h0 ta tl tx) (A : Al Z h0 tl ea 10 (2 : Int32) [(.ref y0), (.ref y1)]) (MR : Mi Z "[Ljava/lang/Object;" mr) (SX : Sl Z h0 tx nt) (SS : Sl Z h0 ts ns) (hnt : nt ≤ 2) (hns : ns ≤ 2) (CS : Cmp Z h0) (EX0 : Exa Z h0 y0 "java/lang/String") (EX1 : Exa Z h0 y1 "java/lang/String") :
    MetFree l mN69 (head1 (Jvm.Cond.code mN69 prog_12_method_3_code 3 (some (.object "com/example/ampersat/ampersat/index/MetaChains$Chain")) :: ws) rO44) (fun a U => a = #[(.ref ta), (.ref ts)] ∧ Z.Warmed39 U.vm ∧ U.heap = h0) (fun _ _ _ _ _ => True) (fun _ U o U' => ∃ v L, o = .returned v ∧ Q_th2 Z ta tl tx ts ea mr y0 y1 nt ns h0 n0 v U'.heap L ∧ FrameEnd U o U' L rO44.cells rO44.slots) := by
  refine MetFree.of_bodySF pn_th1 hisR ?_
  intro p e s m args below meth c s₁ Bd hml0 hP hK
  obtain ⟨rfl, hZ, hh⟩ := hP
  have hx := Bd.exec
  have hby := Bd.bytes
  have dq := @hb _ _ hby
  have hml : c.maxLocals = 3 := hml0
  have hown : s.vm.findClass "com/example/ampersat/ampersat/index/MetaChains$Chain" = some m.cls := findClass_of_methodNamed Bd.named
  have X0 : Stand p l e rO44 s m #[(.ref ta), (.ref ts)] below meth c s₁ [] 0 0 := Stand.of_body Bd
  have e0 : s₁.heap = h0 := by rw [← hh, Bd.state]; rfl
  have N0 := Fr.nil n0
  show Rch p e below s₁ (entryFrame m #[(.ref ta), (.ref ts)] 3) (fun U o => ∃ v L, o = .returned v ∧ Q_th2 Z ta tl tx ts ea mr y0 y1 nt ns h0 n0 v U.heap L ∧ FrameEnd s o U L rO44.cells rO44.slots)
  refine Rch.cast (ef_asbApp m ta ts) ?_
  show Rch p e below s₁ (mkF m 0 #[vR ta, vR ts, .unset] []) _
  obtain ⟨T484, h484, X484, e484, E484, A484, D484, -, st484⟩ := newO X0 hx hZ hown (wq hw 148 rfl) (wq hw 32 rfl) (wq hw 33 rfl) e0 (g := (mkF m 0 #[vR ta, vR ts, .unset] [])) rfl (dq (dg dth 0 rfl)) (by decide) (by decide)
  obtain ⟨a484, g484⟩ : ∃ z, z = h0.size := ⟨_, rfl⟩
  rw [← g484] at A484 D484 st484
  have Ex485 : Ext h0 h484 := E484
  have le486 : h0.size ≤ a484 := Nat.le_of_eq g484.symm
  refine R0_ st484 ?_
  show Rch p e below T484 (mkF m 3 #[vR ta, vR ts, .unset] [(.ref a484)]) _
  refine R1 (XS.dup X484.here hx rfl (dq (dg dth 1 rfl)) rfl rfl) ?_
  refine R1 (XS.aloadN X484.here hx rfl (dq (dg dth 2 rfl)) rfl rfl) ?_
  show Rch p e below T484 (mkF m 5 #[vR ta, vR ts, .unset] [(.ref ta), (.ref a484), (.ref a484)]) _
  obtain ⟨T487, X487, e487, st487⟩ := getF X484 hx hZ hown (host := "") (Or.inl (wq hw 98 rfl)) Via.refl e484 (HC.ext Ex485).2.1 (g := (mkF m 5 #[vR ta, vR ts, .unset] [(.ref ta), (.ref a484), (.ref a484)])) rfl rfl (dq (dg dth 3 rfl))
  refine R0_ st487 ?_
  show Rch p e below T487 (mkF m 8 #[vR ta, vR ts, .unset] [(.ref tl), (.ref a484), (.ref a484)]) _
  obtain ⟨cq488, kq488, q488a, q488b, q488c⟩ := isOf hZ e487 (A.ext Ex485).1
  obtain ⟨_, _, ⟨T488, L488, k488, n488⟩, -, X488, ⟨Lc488, hQ488, l488, y488, z488⟩, st488⟩ := X487.interfaceBack hx (xi := mN66) (y := mN8) hown (mw hZ hw 107 rfl) (mw hZ hw 108 rfl) (mw hZ hw 109 rfl) (mw hZ hw 110 rfl) (mw hZ hw 111 rfl) (mw hZ hw 112 rfl) (mw hZ hw 113 rfl) (mw hZ hw 114 rfl) (by decide) (backOf (W := 2) (rm_alSize l Z a0 hw [] tl ea 10 (2 : Int32) [(.ref y0), (.ref y1)] h484 n0 (Nat.le_trans Z0 Ex485.1) (A.ext Ex485)) hZ (wq hw 115 rfl) (wq hw 33 rfl) (by decide) (by decide)) q488a q488b q488c (g := (mkF m 8 #[vR ta, vR ts, .unset] [(.ref tl), (.ref a484), (.ref a484)])) rfl (by rw [hml]; rfl) (Steps.refl _) (argsL := []) (rest := [(.ref a484), (.ref a484)]) (lenOf pd_20 rfl) rfl (w0 rfl) (dq (dg dth 4 rfl)) (fun _ _ => ⟨rfl, e487, (by decide : 1 + 0 ≤ _), (by decide : 3 + 0 ≤ _)⟩)
  dsimp only [Pt.U, Pt.locs, Pt.cells, Pt.slots] at X488 l488 y488 z488 st488 hQ488
  subst l488 y488 z488
  obtain ⟨rfl, Nq488, e488⟩ := hQ488
  have N488 := Fr.app N0 Nq488
  refine R2 st488 ?_
  show Rch p e below T488 (mkF m 13 #[vR ta, vR ts, .unset] [(.int (2 : Int32)), (.ref a484), (.ref a484)]) _
  refine R1 (XS.iconst X488.here hx rfl (dq (dg dth 5 rfl)) ) ?_
  refine R1 (XS.iadd X488.here hx rfl (dq (dg dth 6 rfl)) rfl) ?_
  show Rch p e below T488 (mkF m 15 #[vR ta, vR ts, .unset] [(.int ((2 : Int32) + (1 : Int32))), (.ref a484), (.ref a484)]) _
  rw [show ((2 : Int32) + (1 : Int32)) = (3 : Int32) from by decide]
  show Rch p e below T488 (mkF m 15 #[vR ta, vR ts, .unset] [(.int (3 : Int32)), (.ref a484), (.ref a484)]) _
  obtain ⟨_, _, ⟨T489, L489, k489, n489⟩, -, X489, ⟨Lc489, hQ489, l489, y489, z489⟩, st489⟩ := X488.specialBack hx (y := mN18) rfl hown (mw hZ hw 149 rfl) (mw hZ hw 150 rfl) (mw hZ hw 151 rfl) (by decide) (backOf (W := 1) (rm_alInitN l Z a0 hw [] a484 (3 : Int32) .null h484 n0 (Nat.le_trans Z0 Ex485.1) (Nat.le_trans Z0 le486) A484 ((D484 (Or.inl (wq hw 54 rfl)) (ty := (.array (.object "java/lang/Object"))) (by decide)).ext Ext.rf) ((D484 (Or.inl (wq hw 63 rfl)) (ty := .int) (by decide)).ext Ext.rf) ((D484 (Or.inl (wq hw 51 rfl)) (ty := .int) (by decide)).ext Ext.rf) (by decide) (by decide) (by decide)) hZ (wq hw 151 rfl) (wq hw 33 rfl) (by decide) (by decide)) (g := (mkF m 15 #[vR ta, vR ts, .unset] [(.int (3 : Int32)), (.ref a484), (.ref a484)])) rfl (by rw [hml]; rfl) (Steps.refl _) (a := a484) (argsL := [(.int (3 : Int32))]) (rest := [(.ref a484)]) (lenOf pd_19 rfl) rfl (w0 rfl) (dq (dg dth 7 rfl)) (fun _ _ => ⟨rfl, e488, (by decide : 1 + 1 ≤ _), (by decide : 3 + 4 ≤ _)⟩)
  dsimp only [Pt.U, Pt.locs, Pt.cells, Pt.slots] at X489 l489 y489 z489 st489 hQ489
  subst l489 y489 z489
  obtain ⟨ea489, rfl, Nq489, K489, le489_, A489⟩ := hQ489
  have N489 := Fr.app N488 Nq489
  have Ex490 : Ext h0 T489.heap := extKeep Ex485 K489 (allS le486 all0)
  refine R2 st489 ?_
  show Rch p e below T489 (mkF m 18 #[vR ta, vR ts, .unset] [(.ref a484)]) _
  have le491 : h0.size ≤ ea489 := Nat.le_trans Ex485.1 le489_
  refine R1 (XS.astoreN X489.here hx rfl (dq (dg dth 8 rfl)) rfl rfl (l' := #[vR ta, vR ts, vR a484]) rfl) ?_
  refine R1 (XS.aloadN X489.here hx rfl (dq (dg dth 9 rfl)) rfl rfl) ?_
  refine R1 (XS.aloadN X489.here hx rfl (dq (dg dth 10 rfl)) rfl rfl) ?_
  show Rch p e below T489 (mkF m 21 #[vR ta, vR ts, vR a484] [(.ref ta), (.ref a484)]) _
  obtain ⟨T493, X493, e493, st493⟩ := getF X489 hx hZ hown (host := "") (Or.inl (wq hw 98 rfl)) Via.refl rfl (HC.ext Ex490).2.1 (g := (mkF m 21 #[vR ta, vR ts, vR a484] [(.ref ta), (.ref a484)])) rfl rfl (dq (dg dth 11 rfl))
  refine R0_ st493 ?_
  show Rch p e below T493 (mkF m 24 #[vR ta, vR ts, vR a484] [(.ref tl), (.ref a484)]) _
  obtain ⟨cq494, kq494, q494a, q494b, q494c⟩ := isOf hZ e493 A489.1
  obtain ⟨_, _, ⟨T494, L494, k494, n494⟩, -, X494, ⟨Lc494, hQ494, l494, y494, z494⟩, st494⟩ := X493.interfaceBack hx (xi := mN70) (y := mN19) hown (mw hZ hw 152 rfl) (mw hZ hw 153 rfl) (mw hZ hw 154 rfl) (mw hZ hw 155 rfl) (mw hZ hw 156 rfl) (mw hZ hw 157 rfl) (mw hZ hw 158 rfl) (mw hZ hw 114 rfl) (by decide) (backOf (W := 0) (rm_addAll l Z a0 hw [] a484 ea489 tl ea mr (3 : Int32) (0 : Int32) 10 (2 : Int32) [] [(.ref y0), (.ref y1)] [(.ref y0), (.ref y1)] T489.heap n0 (Nat.le_trans Z0 Ex490.1) (Nat.le_trans Z0 le486) (Nat.le_trans Z0 le491) A489 (A.ext Ex490) MR (by decide) (by decide) (by decide) rfl (fun v hv => by simp only [List.mem_cons, List.not_mem_nil, or_false] at hv; rcases hv with rfl | rfl <;> first | exact ⟨_, rfl, (EX0.ext Ex490)⟩ | exact ⟨_, rfl, (EX1.ext Ex490)⟩) (by decide) (by decide) (by decide) rfl (Nat.le_of_ble_eq_true rfl)) hZ (wq hw 159 rfl) (wq hw 33 rfl) (by decide) (by decide)) q494a q494b q494c (g := (mkF m 24 #[vR ta, vR ts, vR a484] [(.ref tl), (.ref a484)])) rfl (by rw [hml]; rfl) (Steps.refl _) (argsL := [(.ref tl)]) (rest := []) (lenOf pd_31 rfl) rfl (w0 rfl) (dq (dg dth 12 rfl)) (fun _ _ => ⟨rfl, e493, (by decide : 2 + 1 ≤ _), (by decide : 7 + 4 ≤ _)⟩)
  dsimp only [Pt.U, Pt.locs, Pt.cells, Pt.slots] at X494 l494 y494 z494 st494 hQ494
  subst l494 y494 z494
  obtain ⟨rfl, Nq494, K494, A494⟩ := hQ494
  have N494 := Fr.app N489 Nq494
  have Ex495 : Ext h0 T494.heap := extKeep Ex490 K494 (allS le486 (allS le491 all0))
  refine R2 st494 ?_
  show Rch p e below T494 (mkF m 29 #[vR ta, vR ts, vR a484] [(.int (1 : Int32))]) _
  have AL494 : Al Z T494.heap a484 ea489 (3 : Int32) (2 : Int32) [(.ref y0), (.ref y1)] := by have q := A494; rw [show (0 : Int32) + (2 : Int32) = (2 : Int32) from by decide] at q; exact q
  refine R1 (XT.pop X494.here hx rfl (dq (dg dth 13 rfl)) rfl rfl) ?_
  refine R1 (XS.aloadN X494.here hx rfl (dq (dg dth 14 rfl)) rfl rfl) ?_
  refine R1 (XS.aloadN X494.here hx rfl (dq (dg dth 15 rfl)) rfl rfl) ?_
  show Rch p e below T494 (mkF m 32 #[vR ta, vR ts, vR a484] [(.ref ts), (.ref a484)]) _
  obtain ⟨cq496, kq496, q496a, q496b, q496c⟩ := isOf hZ rfl AL494.1
  obtain ⟨_, _, ⟨T496, L496, k496, n496⟩, -, X496, ⟨Lc496, hQ496, l496, y496, z496⟩, st496⟩ := X494.interfaceBack hx (xi := mN71) (y := mN7) hown (mw hZ hw 192 rfl) (mw hZ hw 193 rfl) (mw hZ hw 194 rfl) (mw hZ hw 195 rfl) (mw hZ hw 57 rfl) (mw hZ hw 196 rfl) (mw hZ hw 197 rfl) (mw hZ hw 114 rfl) (by decide) (backOf (W := 0) (rm_addR l Z a0 hw [] a484 ts ea489 (3 : Int32) (2 : Int32) [(.ref y0), (.ref y1)] T494.heap n0 (Nat.le_trans Z0 Ex495.1) (Nat.le_trans Z0 le486) (Nat.le_trans Z0 le491) AL494 (SS.ext Ex495).exa (by decide) ⟨by decide, by decide⟩ rfl) hZ (wq hw 59 rfl) (wq hw 33 rfl) (by decide) (by decide)) q496a q496b q496c (g := (mkF m 32 #[vR ta, vR ts, vR a484] [(.ref ts), (.ref a484)])) rfl (by rw [hml]; rfl) (Steps.refl _) (argsL := [(.ref ts)]) (rest := []) (lenOf pd_32 rfl) rfl (w0 rfl) (dq (dg dth 16 rfl)) (fun _ _ => ⟨rfl, rfl, (by decide : 3 + 0 ≤ _), (by decide : 11 + 0 ≤ _)⟩)
  dsimp only [Pt.U, Pt.locs, Pt.cells, Pt.slots] at X496 l496 y496 z496 st496 hQ496
  subst l496 y496 z496
  obtain ⟨rfl, Nq496, K496, A496⟩ := hQ496
  have N496 := Fr.app N494 Nq496
  have Ex497 : Ext h0 T496.heap := extKeep Ex495 K496 (allS le486 (allS le491 all0))
  refine R2 st496 ?_
  show Rch p e below T496 (mkF m 37 #[vR ta, vR ts, vR a484] [(.int (1 : Int32))]) _
  have AL496 : Al Z T496.heap a484 ea489 (3 : Int32) (3 : Int32) [(.ref y0), (.ref y1), (.ref ts)] := by have q := A496; rw [show (2 : Int32) + (1 : Int32) = (3 : Int32) from by decide] at q; exact q
  refine R1 (XT.pop X496.here hx rfl (dq (dg dth 17 rfl)) rfl rfl) ?_
  show Rch p e below T496 (mkF m 38 #[vR ta, vR ts, vR a484] []) _
  obtain ⟨T498, h498, X498, e498, E498, A498, D498, -, st498⟩ := newO X496 hx hZ hown (wq hw 198 rfl) (wq hw 87 rfl) (wq hw 88 rfl) rfl (g := (mkF m 38 #[vR ta, vR ts, vR a484] [])) rfl (dq (dg dth 18 rfl)) (by decide) (by decide)
  obtain ⟨a498, g498⟩ : ∃ z, z = T496.heap.size := ⟨_, rfl⟩
  rw [← g498] at A498 D498 st498
  have Ex499 : Ext h0 h498 := Ex497.tr E498
  have Ex500 : Ext T496.heap h498 := E498
  have le501 : h0.size ≤ a498 := Nat.le_trans Ex497.1 (Nat.le_of_eq g498.symm)
  refine R0_ st498 ?_
  show Rch p e below T498 (mkF m 41 #[vR ta, vR ts, vR a484] [(.ref a498)]) _
  refine R1 (XS.dup X498.here hx rfl (dq (dg dth 19 rfl)) rfl rfl) ?_
  refine R1 (XS.aloadN X498.here hx rfl (dq (dg dth 20 rfl)) rfl rfl) ?_
  show Rch p e below T498 (mkF m 43 #[vR ta, vR ts, vR a484] [(.ref a484), (.ref a498), (.ref a498)]) _
  obtain ⟨_, _, ⟨T503, L503, k503, n503⟩, -, X503, ⟨Lc503, hQ503, l503, y503, z503⟩, st503⟩ := Jvm.LawKit.callS X498 hx (y := mN29) hown (mw hZ hw 199 rfl) (mw hZ hw 200 rfl) (mw hZ hw 201 rfl) (mw hZ hw 202 rfl) (by decide) (backOf (W := 2) (rm_cpo3 l Z a0 hw [] a484 ea489 mr y0 y1 ts h498 n0 (Nat.le_trans Z0 Ex499.1) (AL496.ext Ex500) MR (EX0.ext Ex499) (EX1.ext Ex499) (SS.ext Ex499).exa) hZ (wq hw 202 rfl) (wq hw 201 rfl) (by decide) (by decide)) (g := (mkF m 43 #[vR ta, vR ts, vR a484] [(.ref a484), (.ref a498), (.ref a498)])) rfl (by rw [hml]; rfl) (argsL := [(.ref a484)]) (rest := [(.ref a498), (.ref a498)]) (lenOf pd_13 rfl) rfl (w0 rfl) (dq (dg dth 21 rfl)) (fun _ _ => ⟨rfl, e498, (by decide : 4 + 3 ≤ _), (by decide : 13 + 9 ≤ _)⟩)
  dsimp only [Pt.U, Pt.locs, Pt.cells, Pt.slots] at X503 l503 y503 z503 st503 hQ503
  subst l503 y503 z503
  obtain ⟨t503, rfl, Nq503, E503, le503_, R503⟩ := hQ503
  have N503 := Fr.app N496 Nq503
  have Ex504 : Ext h0 T503.heap := Ex499.tr E503
  have Ex506 : Ext h498 T503.heap := E503
  refine R0_ st503 ?_
  show Rch p e below T503 (mkF m 46 #[vR ta, vR ts, vR a484] [(.ref t503), (.ref a498), (.ref a498)]) _
  obtain ⟨T507, h507, X507, e507, E507, A507, D507, -, st507⟩ := newO X503 hx hZ hown (wq hw 253 rfl) (wq hw 254 rfl) (wq hw 255 rfl) rfl (g := (mkF m 46 #[vR ta, vR ts, vR a484] [(.ref t503), (.ref a498), (.ref a498)])) rfl (dq (dg dth 22 rfl)) (by decide) (by decide)
  obtain ⟨a507, g507⟩ : ∃ z, z = T503.heap.size := ⟨_, rfl⟩
  rw [← g507] at A507 D507 st507
  have Ex508 : Ext h0 h507 := Ex504.tr E507
  have Ex510 : Ext h498 h507 := Ex506.tr E507
  have Ex511 : Ext T503.heap h507 := E507
  have le512 : h0.size ≤ a507 := Nat.le_trans Ex504.1 (Nat.le_of_eq g507.symm)
  have le514 : h498.size ≤ a507 := Nat.le_trans Ex506.1 (Nat.le_of_eq g507.symm)
  have le515 : T503.heap.size ≤ a507 := Nat.le_of_eq g507.symm
  refine R0_ st507 ?_
  show Rch p e below T507 (mkF m 49 #[vR ta, vR ts, vR a484] [(.ref a507), (.ref t503), (.ref a498), (.ref a498)]) _
  refine R1 (XS.dup X507.here hx rfl (dq (dg dth 23 rfl)) rfl rfl) ?_
  show Rch p e below T507 (mkF m 50 #[vR ta, vR ts, vR a484] [(.ref a507), (.ref a507), (.ref t503), (.ref a498), (.ref a498)]) _
  obtain ⟨_, _, ⟨T516, L516, k516, n516⟩, -, X516, ⟨Lc516, hQ516, l516, y516, z516⟩, st516⟩ := X507.specialBack hx (y := mN38) rfl hown (mw hZ hw 256 rfl) (mw hZ hw 257 rfl) (mw hZ hw 258 rfl) (by decide) (backOf (W := 4) (rm_sbInit l Z a0 hw [] a507 h507 n0 (Nat.le_trans Z0 Ex508.1) (Nat.le_trans Z0 le512) A507 ((D507 (Or.inl (wq hw 268 rfl)) (ty := (.array .byte)) (by decide)).ext Ext.rf) ((D507 (Or.inl (wq hw 270 rfl)) (ty := .byte) (by decide)).ext Ext.rf) ((D507 (Or.inl (wq hw 292 rfl)) (ty := .int) (by decide)).ext Ext.rf) (CS.ext Ex508)) hZ (wq hw 258 rfl) (wq hw 255 rfl) (by decide) (by decide)) (g := (mkF m 50 #[vR ta, vR ts, vR a484] [(.ref a507), (.ref a507), (.ref t503), (.ref a498), (.ref a498)])) rfl (by rw [hml]; rfl) (Steps.refl _) (a := a507) (argsL := []) (rest := [(.ref a507), (.ref t503), (.ref a498), (.ref a498)]) (lenOf pd_0 rfl) rfl (w0 rfl) (dq (dg dth 24 rfl)) (fun _ _ => ⟨rfl, e507, (by decide : 8 + 1 ≤ _), (by decide : 26 + 16 ≤ _)⟩)
  dsimp only [Pt.U, Pt.locs, Pt.cells, Pt.slots] at X516 l516 y516 z516 st516 hQ516
  subst l516 y516 z516
  obtain ⟨va516, rfl, Nq516, K516, le516_, B516⟩ := hQ516
  have N516 := Fr.app N503 Nq516
  have Ex517 : Ext h0 T516.heap := extKeep Ex508 K516 (allS le512 all0)
  have Ex519 : Ext h498 T516.heap := extKeep Ex510 K516 (allS le514 all0)
  have Ex520 : Ext T503.heap T516.heap := extKeep Ex511 K516 (allS le515 all0)
  refine R2 st516 ?_
  show Rch p e below T516 (mkF m 53 #[vR ta, vR ts, vR a484] [(.ref a507), (.ref t503), (.ref a498), (.ref a498)]) _
  have le521 : h0.size ≤ va516 := Nat.le_trans Ex508.1 le516_
  have le523 : h498.size ≤ va516 := Nat.le_trans Ex510.1 le516_
  have le524 : T503.heap.size ≤ va516 := Nat.le_trans Ex511.1 le516_
  refine R1 (XS.aloadN X516.here hx rfl (dq (dg dth 25 rfl)) rfl rfl) ?_
  show Rch p e below T516 (mkF m 54 #[vR ta, vR ts, vR a484] [(.ref ta), (.ref a507), (.ref t503), (.ref a498), (.ref a498)]) _
  obtain ⟨T526, X526, e526, st526⟩ := getF X516 hx hZ hown (host := "") (Or.inl (wq hw 100 rfl)) Via.refl rfl (HC.ext Ex517).2.2 (g := (mkF m 54 #[vR ta, vR ts, vR a484] [(.ref ta), (.ref a507), (.ref t503), (.ref a498), (.ref a498)])) rfl rfl (dq (dg dth 26 rfl))
  refine R0_ st526 ?_
  show Rch p e below T526 (mkF m 57 #[vR ta, vR ts, vR a484] [(.ref tx), (.ref a507), (.ref t503), (.ref a498), (.ref a498)]) _
  obtain ⟨cq527, kq527, q527a, q527b, q527c⟩ := isOf hZ e526 B516.1
  obtain ⟨_, _, ⟨T527, L527, k527, n527⟩, -, X527, ⟨Lc527, hQ527, l527, y527, z527⟩, st527⟩ := X526.virtualBack hx (y := mN48) (z := mN48) hown (mw hZ hw 271 rfl) (mw hZ hw 272 rfl) (notFace_of_selects (args := #[]) (mw hZ hw 274 rfl)) (mw hZ hw 274 rfl) (mw hZ hw 273 rfl) (by decide) (backOf (W := 3) (rm_sbApp l Z a0 hw [] a507 va516 tx (0) nt T516.heap n0 (Nat.le_trans Z0 Ex517.1) B516 (SX.ext Ex517) (Nat.le_trans Z0 le512) (Nat.le_trans Z0 le521) (by omega) (CS.ext Ex517)) hZ (wq hw 275 rfl) (wq hw 255 rfl) (by decide) (by decide)) q527a q527c (g := (mkF m 57 #[vR ta, vR ts, vR a484] [(.ref tx), (.ref a507), (.ref t503), (.ref a498), (.ref a498)])) rfl (by rw [hml]; rfl) (Steps.refl _) (argsL := [(.ref tx)]) (rest := [(.ref t503), (.ref a498), (.ref a498)]) (lenOf pd_33 rfl) rfl (w0 rfl) (dq (dg dth 27 rfl)) (fun _ _ => ⟨rfl, e526, (by decide : 9 + 0 ≤ _), (by decide : 42 + 0 ≤ _)⟩)
  dsimp only [Pt.U, Pt.locs, Pt.cells, Pt.slots] at X527 l527 y527 z527 st527 hQ527
  subst l527 y527 z527
  obtain ⟨rfl, Nq527, K527, B527⟩ := hQ527
  have N527 := Fr.app N516 Nq527
  have Ex528 : Ext h0 T527.heap := extKeep Ex517 K527 (allS le512 (allS le521 all0))
  have Ex530 : Ext h498 T527.heap := extKeep Ex519 K527 (allS le514 (allS le523 all0))
  have Ex531 : Ext T503.heap T527.heap := extKeep Ex520 K527 (allS le515 (allS le524 all0))
  refine R2 st527 ?_
  show Rch p e below T527 (mkF m 60 #[vR ta, vR ts, vR a484] [(.ref a507), (.ref t503), (.ref a498), (.ref a498)]) _
  refine R1 (XS.bipush X527.here hx rfl (dq (dg dth 28 rfl)) ) ?_
  show Rch p e below T527 (mkF m 62 #[vR ta, vR ts, vR a484] [(.int (32 : Int32)), (.ref a507), (.ref t503), (.ref a498), (.ref a498)]) _
  obtain ⟨cq532, kq532, q532a, q532b, q532c⟩ := isOf hZ rfl B527.1
  obtain ⟨_, _, ⟨T532, L532, k532, n532⟩, -, X532, ⟨Lc532, hQ532, l532, y532, z532⟩, st532⟩ := X527.virtualBack hx (y := mN50) (z := mN50) hown (mw hZ hw 315 rfl) (mw hZ hw 316 rfl) (notFace_of_selects (args := #[]) (mw hZ hw 318 rfl)) (mw hZ hw 318 rfl) (mw hZ hw 317 rfl) (by decide) (backOf (W := 3) (rm_sbAppC l Z a0 hw [] a507 va516 (0 + nt) (32 : Int32) T527.heap n0 (Nat.le_trans Z0 Ex528.1) B527 (Nat.le_trans Z0 le512) (Nat.le_trans Z0 le521) (by omega) (by decide) (CS.ext Ex528)) hZ (wq hw 319 rfl) (wq hw 255 rfl) (by decide) (by decide)) q532a q532c (g := (mkF m 62 #[vR ta, vR ts, vR a484] [(.int (32 : Int32)), (.ref a507), (.ref t503), (.ref a498), (.ref a498)])) rfl (by rw [hml]; rfl) (Steps.refl _) (argsL := [(.int (32 : Int32))]) (rest := [(.ref t503), (.ref a498), (.ref a498)]) (lenOf pd_34 rfl) rfl (w0 rfl) (dq (dg dth 29 rfl)) (fun _ _ => ⟨rfl, rfl, (by decide : 9 + 0 ≤ _), (by decide : 42 + 0 ≤ _)⟩)
  dsimp only [Pt.U, Pt.locs, Pt.cells, Pt.slots] at X532 l532 y532 z532 st532 hQ532
  subst l532 y532 z532
  obtain ⟨rfl, Nq532, K532, B532⟩ := hQ532
  have N532 := Fr.app N527 Nq532
  have Ex533 : Ext h0 T532.heap := extKeep Ex528 K532 (allS le512 (allS le521 all0))
  have Ex535 : Ext h498 T532.heap := extKeep Ex530 K532 (allS le514 (allS le523 all0))
  have Ex536 : Ext T503.heap T532.heap := extKeep Ex531 K532 (allS le515 (allS le524 all0))
  refine R2 st532 ?_
  show Rch p e below T532 (mkF m 65 #[vR ta, vR ts, vR a484] [(.ref a507), (.ref t503), (.ref a498), (.ref a498)]) _
  refine R1 (XS.aloadN X532.here hx rfl (dq (dg dth 30 rfl)) rfl rfl) ?_
  show Rch p e below T532 (mkF m 66 #[vR ta, vR ts, vR a484] [(.ref ts), (.ref a507), (.ref t503), (.ref a498), (.ref a498)]) _
  obtain ⟨cq537, kq537, q537a, q537b, q537c⟩ := isOf hZ rfl B532.1
  obtain ⟨_, _, ⟨T537, L537, k537, n537⟩, -, X537, ⟨Lc537, hQ537, l537, y537, z537⟩, st537⟩ := X532.virtualBack hx (y := mN48) (z := mN48) hown (mw hZ hw 271 rfl) (mw hZ hw 272 rfl) (notFace_of_selects (args := #[]) (mw hZ hw 274 rfl)) (mw hZ hw 274 rfl) (mw hZ hw 273 rfl) (by decide) (backOf (W := 3) (rm_sbApp l Z a0 hw [] a507 va516 ts (0 + nt + 1) ns T532.heap n0 (Nat.le_trans Z0 Ex533.1) B532 (SS.ext Ex533) (Nat.le_trans Z0 le512) (Nat.le_trans Z0 le521) (by omega) (CS.ext Ex533)) hZ (wq hw 275 rfl) (wq hw 255 rfl) (by decide) (by decide)) q537a q537c (g := (mkF m 66 #[vR ta, vR ts, vR a484] [(.ref ts), (.ref a507), (.ref t503), (.ref a498), (.ref a498)])) rfl (by rw [hml]; rfl) (Steps.refl _) (argsL := [(.ref ts)]) (rest := [(.ref t503), (.ref a498), (.ref a498)]) (lenOf pd_33 rfl) rfl (w0 rfl) (dq (dg dth 31 rfl)) (fun _ _ => ⟨rfl, rfl, (by decide : 9 + 0 ≤ _), (by decide : 42 + 0 ≤ _)⟩)
  dsimp only [Pt.U, Pt.locs, Pt.cells, Pt.slots] at X537 l537 y537 z537 st537 hQ537
  subst l537 y537 z537
  obtain ⟨rfl, Nq537, K537, B537⟩ := hQ537
  have N537 := Fr.app N532 Nq537
  have Ex538 : Ext h0 T537.heap := extKeep Ex533 K537 (allS le512 (allS le521 all0))
  have Ex540 : Ext h498 T537.heap := extKeep Ex535 K537 (allS le514 (allS le523 all0))
  have Ex541 : Ext T503.heap T537.heap := extKeep Ex536 K537 (allS le515 (allS le524 all0))
  refine R2 st537 ?_
  show Rch p e below T537 (mkF m 69 #[vR ta, vR ts, vR a484] [(.ref a507), (.ref t503), (.ref a498), (.ref a498)]) _
  obtain ⟨cq542, kq542, q542a, q542b, q542c⟩ := isOf hZ rfl B537.1
  obtain ⟨_, _, ⟨T542, L542, k542, n542⟩, -, X542, ⟨Lc542, hQ542, l542, y542, z542⟩, st542⟩ := X537.virtualBack hx (y := mN56) (z := mN56) hown (mw hZ hw 330 rfl) (mw hZ hw 331 rfl) (notFace_of_selects (args := #[]) (mw hZ hw 333 rfl)) (mw hZ hw 333 rfl) (mw hZ hw 332 rfl) (by decide) (backOf (W := 3) (rm_sbStr l Z a0 hw [] a507 va516 (0 + nt + 1 + ns) T537.heap n0 (Nat.le_trans Z0 Ex538.1) B537 (by omega) (CS.ext Ex538)) hZ (wq hw 334 rfl) (wq hw 255 rfl) (by decide) (by decide)) q542a q542c (g := (mkF m 69 #[vR ta, vR ts, vR a484] [(.ref a507), (.ref t503), (.ref a498), (.ref a498)])) rfl (by rw [hml]; rfl) (Steps.refl _) (argsL := []) (rest := [(.ref t503), (.ref a498), (.ref a498)]) (lenOf pd_35 rfl) rfl (w0 rfl) (dq (dg dth 32 rfl)) (fun _ _ => ⟨rfl, rfl, (by decide : 9 + 2 ≤ _), (by decide : 42 + 20 ≤ _)⟩)
  dsimp only [Pt.U, Pt.locs, Pt.cells, Pt.slots] at X542 l542 y542 z542 st542 hQ542
  subst l542 y542 z542
  obtain ⟨t542, rfl, Nq542, E542, le542_, EX542⟩ := hQ542
  have N542 := Fr.app N537 Nq542
  have Ex543 : Ext h0 T542.heap := Ex538.tr E542
  have Ex545 : Ext h498 T542.heap := Ex540.tr E542
  have Ex546 : Ext T503.heap T542.heap := Ex541.tr E542
  refine R2 st542 ?_
  show Rch p e below T542 (mkF m 72 #[vR ta, vR ts, vR a484] [(.ref t542), (.ref t503), (.ref a498), (.ref a498)]) _
  obtain ⟨_, _, ⟨T548, L548, k548, n548⟩, -, X548, ⟨Lc548, hQ548, l548, y548, z548⟩, st548⟩ := X542.specialBack hx (y := mN58) rfl hown (mw hZ hw 365 rfl) (mw hZ hw 90 rfl) (mw hZ hw 91 rfl) (by decide) (backOf (W := 1) (rm_chI l Z a0 hw [] a498 t503 t542 T542.heap n0 (Nat.le_trans Z0 Ex543.1) (Nat.le_trans Z0 le501) (A498.ext Ex545) ((D498 (Or.inr (wq hw 99 rfl)) (ty := (.object "java/util/List")) (by decide)).ext Ex545) ((D498 (Or.inr (wq hw 101 rfl)) (ty := (.object "java/lang/String")) (by decide)).ext Ex545)) hZ (wq hw 91 rfl) (wq hw 88 rfl) (by decide) (by decide)) (g := (mkF m 72 #[vR ta, vR ts, vR a484] [(.ref t542), (.ref t503), (.ref a498), (.ref a498)])) rfl (by rw [hml]; rfl) (Steps.refl _) (a := a498) (argsL := [(.ref t503), (.ref t542)]) (rest := [(.ref a498)]) (lenOf pd_36 rfl) rfl (w0 rfl) (dq (dg dth 33 rfl)) (fun _ _ => ⟨rfl, rfl, (by decide : 11 + 0 ≤ _), (by decide : 62 + 0 ≤ _)⟩)
  dsimp only [Pt.U, Pt.locs, Pt.cells, Pt.slots] at X548 l548 y548 z548 st548 hQ548
  subst l548 y548 z548
  obtain ⟨rfl, Nq548, K548, G548⟩ := hQ548
  have N548 := Fr.app N542 Nq548
  have Ex549 : Ext h0 T548.heap := extKeep Ex543 K548 (allS le501 all0)
  refine R2 st548 ?_
  show Rch p e below T548 (mkF m 75 #[vR ta, vR ts, vR a484] [(.ref a498)]) _
  have R9 := (R503.ext Ex546).keepC K548 (A498.ext Ex545)
  exact Rch.fin (Q := Q_th2 Z ta tl tx ts ea mr y0 y1 nt ns h0 n0) X548 (v := some (.ref a498)) (fun h => by rw [Bd.returns] at h; cases h) (BodyLoose.notSynchronized Bd) (fun fs hr => retR X548 hx Bd.returns rfl rfl (dq (dg dth 34 rfl)) hr) ⟨a498, t503, t542, rfl, N548, Ex549, G548, R9⟩ (by decide) (by decide)
def Q_of2 (Z : State) (ta tl tx ts ea mr y0 y1 : Addr) (nt ns : Nat) (h0 : Heap) (n0 : Nat) (v : Option Value) (h : Heap) (L : List Loc) : Prop := ∃ r t u, v = some (.ref r) ∧ Fr n0 L ∧ Ext h0 h ∧ Chn Z h r t u ∧ LNp Z h t (3 : Int32) [(.ref ts), (.ref y0), (.ref y1)]
set_option maxRecDepth 65536 in
set_option maxHeartbeats 40000000 in
theorem rm_of2 (l : Launch) (Z : State) (a0 : Array Value) (hw : ∀ d ∈ tables_1, d.before a0 Z = true) (ws : List Jvm.Cond) (ta tl tx ts ea mr y0 y1 : Addr) (nt ns : Nat) (h0 : Heap) (n0 : Nat) (Z0 : n0 ≤ h0.size) (HC : Chn Z h0 ta tl tx) (A : Al Z h0 tl ea 10 (2 : Int32) [(.ref y0), (.ref y1)]) (MR : Mi Z "[Ljava/lang/Object;" mr) (SX : Sl Z h0 tx nt) (SS : Sl Z h0 ts ns) (hnt : nt ≤ 2) (hns : ns ≤ 2) (CS : Cmp Z h0) (EX0 : Exa Z h0 y0 "java/lang/String") (EX1 : Exa Z h0 y1 "java/lang/String") :
    MetFree l mN72 (head1 (Jvm.Cond.code mN72 prog_12_method_2_code 4 (some (.object "com/example/ampersat/ampersat/index/MetaChains$Chain")) :: ws) rO44) (fun a U => a = #[(.ref ts), (.ref ta)] ∧ Z.Warmed39 U.vm ∧ U.heap = h0) (fun _ _ _ _ _ => True) (fun _ U o U' => ∃ v L, o = .returned v ∧ Q_of2 Z ta tl tx ts ea mr y0 y1 nt ns h0 n0 v U'.heap L ∧ FrameEnd U o U' L rO44.cells rO44.slots) := by
  refine MetFree.of_bodySF pn_of1 hisR ?_
  intro p e s m args below meth c s₁ Bd hml0 hP hK
  obtain ⟨rfl, hZ, hh⟩ := hP
  have hx := Bd.exec
  have hby := Bd.bytes
  have dq := @hb _ _ hby
  have hml : c.maxLocals = 4 := hml0
  have hown : s.vm.findClass "com/example/ampersat/ampersat/index/MetaChains$Chain" = some m.cls := findClass_of_methodNamed Bd.named
  have X0 : Stand p l e rO44 s m #[(.ref ts), (.ref ta)] below meth c s₁ [] 0 0 := Stand.of_body Bd
  have e0 : s₁.heap = h0 := by rw [← hh, Bd.state]; rfl
  have N0 := Fr.nil n0
  show Rch p e below s₁ (entryFrame m #[(.ref ts), (.ref ta)] 4) (fun U o => ∃ v L, o = .returned v ∧ Q_of2 Z ta tl tx ts ea mr y0 y1 nt ns h0 n0 v U.heap L ∧ FrameEnd s o U L rO44.cells rO44.slots)
  refine Rch.cast (ef_of1 m ts ta) ?_
  show Rch p e below s₁ (mkF m 0 #[vR ts, vR ta, .unset, .unset] []) _
  refine R1 (XS.aloadN X0.here hx rfl (dq (dg dof 0 rfl)) rfl rfl) ?_
  refine R1 (XT.ifnonnullYes X0.here hx rfl (pc0 := 1) (pc' := 20) rfl (dq (dg dof 1 rfl)) rfl (by decide) (by decide)) ?_
  show Rch p e below s₁ (mkF m 20 #[vR ts, vR ta, .unset, .unset] []) _
  obtain ⟨T551, h551, X551, e551, E551, A551, D551, -, st551⟩ := newO X0 hx hZ hown (wq hw 148 rfl) (wq hw 32 rfl) (wq hw 33 rfl) e0 (g := (mkF m 20 #[vR ts, vR ta, .unset, .unset] [])) rfl (dq (dg dof 2 rfl)) (by decide) (by decide)
  obtain ⟨a551, g551⟩ : ∃ z, z = h0.size := ⟨_, rfl⟩
  rw [← g551] at A551 D551 st551
  have Ex552 : Ext h0 h551 := E551
  have le553 : h0.size ≤ a551 := Nat.le_of_eq g551.symm
  refine R0_ st551 ?_
  show Rch p e below T551 (mkF m 23 #[vR ts, vR ta, .unset, .unset] [(.ref a551)]) _
  refine R1 (XS.dup X551.here hx rfl (dq (dg dof 3 rfl)) rfl rfl) ?_
  refine R1 (XS.aloadN X551.here hx rfl (dq (dg dof 4 rfl)) rfl rfl) ?_
  show Rch p e below T551 (mkF m 25 #[vR ts, vR ta, .unset, .unset] [(.ref ta), (.ref a551), (.ref a551)]) _
  obtain ⟨cq554, kq554, q554a, q554b, q554c⟩ := isOf hZ e551 (HC.ext Ex552).1
  obtain ⟨_, _, ⟨T554, L554, k554, n554⟩, -, X554, ⟨Lc554, hQ554, l554, y554, z554⟩, st554⟩ := X551.virtualBack hx (y := mN59) (z := mN59) hown (mw hZ hw 381 rfl) (mw hZ hw 382 rfl) (notFace_of_selects (args := #[]) (mw hZ hw 384 rfl)) (mw hZ hw 384 rfl) (mw hZ hw 383 rfl) (by decide) (backOf (W := 2) (rm_typ l Z a0 hw [] ta tl tx h551 n0 (Nat.le_trans Z0 Ex552.1) (HC.ext Ex552)) hZ (wq hw 385 rfl) (wq hw 88 rfl) (by decide) (by decide)) q554a q554c (g := (mkF m 25 #[vR ts, vR ta, .unset, .unset] [(.ref ta), (.ref a551), (.ref a551)])) rfl (by rw [hml]; rfl) (Steps.refl _) (argsL := []) (rest := [(.ref a551), (.ref a551)]) (lenOf pd_37 rfl) rfl (w0 rfl) (dq (dg dof 5 rfl)) (fun _ _ => ⟨rfl, e551, (by decide : 1 + 0 ≤ _), (by decide : 3 + 0 ≤ _)⟩)
  dsimp only [Pt.U, Pt.locs, Pt.cells, Pt.slots] at X554 l554 y554 z554 st554 hQ554
  subst l554 y554 z554
  obtain ⟨rfl, Nq554, e554⟩ := hQ554
  have N554 := Fr.app N0 Nq554
  refine R2 st554 ?_
  show Rch p e below T554 (mkF m 28 #[vR ts, vR ta, .unset, .unset] [(.ref tl), (.ref a551), (.ref a551)]) _
  obtain ⟨cq555, kq555, q555a, q555b, q555c⟩ := isOf hZ e554 (A.ext Ex552).1
  obtain ⟨_, _, ⟨T555, L555, k555, n555⟩, -, X555, ⟨Lc555, hQ555, l555, y555, z555⟩, st555⟩ := X554.interfaceBack hx (xi := mN66) (y := mN8) hown (mw hZ hw 107 rfl) (mw hZ hw 108 rfl) (mw hZ hw 109 rfl) (mw hZ hw 110 rfl) (mw hZ hw 111 rfl) (mw hZ hw 112 rfl) (mw hZ hw 113 rfl) (mw hZ hw 114 rfl) (by decide) (backOf (W := 2) (rm_alSize l Z a0 hw [] tl ea 10 (2 : Int32) [(.ref y0), (.ref y1)] h551 n0 (Nat.le_trans Z0 Ex552.1) (A.ext Ex552)) hZ (wq hw 115 rfl) (wq hw 33 rfl) (by decide) (by decide)) q555a q555b q555c (g := (mkF m 28 #[vR ts, vR ta, .unset, .unset] [(.ref tl), (.ref a551), (.ref a551)])) rfl (by rw [hml]; rfl) (Steps.refl _) (argsL := []) (rest := [(.ref a551), (.ref a551)]) (lenOf pd_20 rfl) rfl (w0 rfl) (dq (dg dof 6 rfl)) (fun _ _ => ⟨rfl, e554, (by decide : 1 + 0 ≤ _), (by decide : 3 + 0 ≤ _)⟩)
  dsimp only [Pt.U, Pt.locs, Pt.cells, Pt.slots] at X555 l555 y555 z555 st555 hQ555
  subst l555 y555 z555
  obtain ⟨rfl, Nq555, e555⟩ := hQ555
  have N555 := Fr.app N554 Nq555
  refine R2 st555 ?_
  show Rch p e below T555 (mkF m 33 #[vR ts, vR ta, .unset, .unset] [(.int (2 : Int32)), (.ref a551), (.ref a551)]) _
  refine R1 (XS.iconst X555.here hx rfl (dq (dg dof 7 rfl)) ) ?_
  refine R1 (XS.iadd X555.here hx rfl (dq (dg dof 8 rfl)) rfl) ?_
  show Rch p e below T555 (mkF m 35 #[vR ts, vR ta, .unset, .unset] [(.int ((2 : Int32) + (1 : Int32))), (.ref a551), (.ref a551)]) _
  rw [show ((2 : Int32) + (1 : Int32)) = (3 : Int32) from by decide]
  show Rch p e below T555 (mkF m 35 #[vR ts, vR ta, .unset, .unset] [(.int (3 : Int32)), (.ref a551), (.ref a551)]) _
  obtain ⟨_, _, ⟨T556, L556, k556, n556⟩, -, X556, ⟨Lc556, hQ556, l556, y556, z556⟩, st556⟩ := X555.specialBack hx (y := mN18) rfl hown (mw hZ hw 149 rfl) (mw hZ hw 150 rfl) (mw hZ hw 151 rfl) (by decide) (backOf (W := 1) (rm_alInitN l Z a0 hw [] a551 (3 : Int32) .null h551 n0 (Nat.le_trans Z0 Ex552.1) (Nat.le_trans Z0 le553) A551 ((D551 (Or.inl (wq hw 54 rfl)) (ty := (.array (.object "java/lang/Object"))) (by decide)).ext Ext.rf) ((D551 (Or.inl (wq hw 63 rfl)) (ty := .int) (by decide)).ext Ext.rf) ((D551 (Or.inl (wq hw 51 rfl)) (ty := .int) (by decide)).ext Ext.rf) (by decide) (by decide) (by decide)) hZ (wq hw 151 rfl) (wq hw 33 rfl) (by decide) (by decide)) (g := (mkF m 35 #[vR ts, vR ta, .unset, .unset] [(.int (3 : Int32)), (.ref a551), (.ref a551)])) rfl (by rw [hml]; rfl) (Steps.refl _) (a := a551) (argsL := [(.int (3 : Int32))]) (rest := [(.ref a551)]) (lenOf pd_19 rfl) rfl (w0 rfl) (dq (dg dof 9 rfl)) (fun _ _ => ⟨rfl, e555, (by decide : 1 + 1 ≤ _), (by decide : 3 + 4 ≤ _)⟩)
  dsimp only [Pt.U, Pt.locs, Pt.cells, Pt.slots] at X556 l556 y556 z556 st556 hQ556
  subst l556 y556 z556
  obtain ⟨ea556, rfl, Nq556, K556, le556_, A556⟩ := hQ556
  have N556 := Fr.app N555 Nq556
  have Ex557 : Ext h0 T556.heap := extKeep Ex552 K556 (allS le553 all0)
  refine R2 st556 ?_
  show Rch p e below T556 (mkF m 38 #[vR ts, vR ta, .unset, .unset] [(.ref a551)]) _
  have le558 : h0.size ≤ ea556 := Nat.le_trans Ex552.1 le556_
  refine R1 (XS.astoreN X556.here hx rfl (dq (dg dof 10 rfl)) rfl rfl (l' := #[vR ts, vR ta, .unset, vR a551]) rfl) ?_
  refine R1 (XS.aloadN X556.here hx rfl (dq (dg dof 11 rfl)) rfl rfl) ?_
  refine R1 (XS.aloadN X556.here hx rfl (dq (dg dof 12 rfl)) rfl rfl) ?_
  show Rch p e below T556 (mkF m 41 #[vR ts, vR ta, .unset, vR a551] [(.ref ts), (.ref a551)]) _
  obtain ⟨cq560, kq560, q560a, q560b, q560c⟩ := isOf hZ rfl A556.1
  obtain ⟨_, _, ⟨T560, L560, k560, n560⟩, -, X560, ⟨Lc560, hQ560, l560, y560, z560⟩, st560⟩ := X556.interfaceBack hx (xi := mN71) (y := mN7) hown (mw hZ hw 192 rfl) (mw hZ hw 193 rfl) (mw hZ hw 194 rfl) (mw hZ hw 195 rfl) (mw hZ hw 57 rfl) (mw hZ hw 196 rfl) (mw hZ hw 197 rfl) (mw hZ hw 114 rfl) (by decide) (backOf (W := 0) (rm_addR l Z a0 hw [] a551 ts ea556 (3 : Int32) (0 : Int32) [] T556.heap n0 (Nat.le_trans Z0 Ex557.1) (Nat.le_trans Z0 le553) (Nat.le_trans Z0 le558) A556 (SS.ext Ex557).exa (by decide) ⟨by decide, by decide⟩ rfl) hZ (wq hw 59 rfl) (wq hw 33 rfl) (by decide) (by decide)) q560a q560b q560c (g := (mkF m 41 #[vR ts, vR ta, .unset, vR a551] [(.ref ts), (.ref a551)])) rfl (by rw [hml]; rfl) (Steps.refl _) (argsL := [(.ref ts)]) (rest := []) (lenOf pd_32 rfl) rfl (w0 rfl) (dq (dg dof 13 rfl)) (fun _ _ => ⟨rfl, rfl, (by decide : 2 + 0 ≤ _), (by decide : 7 + 0 ≤ _)⟩)
  dsimp only [Pt.U, Pt.locs, Pt.cells, Pt.slots] at X560 l560 y560 z560 st560 hQ560
  subst l560 y560 z560
  obtain ⟨rfl, Nq560, K560, A560⟩ := hQ560
  have N560 := Fr.app N556 Nq560
  have Ex561 : Ext h0 T560.heap := extKeep Ex557 K560 (allS le553 (allS le558 all0))
  refine R2 st560 ?_
  show Rch p e below T560 (mkF m 46 #[vR ts, vR ta, .unset, vR a551] [(.int (1 : Int32))]) _
  have AL560 : Al Z T560.heap a551 ea556 (3 : Int32) (1 : Int32) [(.ref ts)] := by have q := A560; rw [show (0 : Int32) + (1 : Int32) = (1 : Int32) from by decide] at q; exact q
  refine R1 (XT.pop X560.here hx rfl (dq (dg dof 14 rfl)) rfl rfl) ?_
  refine R1 (XS.aloadN X560.here hx rfl (dq (dg dof 15 rfl)) rfl rfl) ?_
  refine R1 (XS.aloadN X560.here hx rfl (dq (dg dof 16 rfl)) rfl rfl) ?_
  show Rch p e below T560 (mkF m 49 #[vR ts, vR ta, .unset, vR a551] [(.ref ta), (.ref a551)]) _
  obtain ⟨cq562, kq562, q562a, q562b, q562c⟩ := isOf hZ rfl (HC.ext Ex561).1
  obtain ⟨_, _, ⟨T562, L562, k562, n562⟩, -, X562, ⟨Lc562, hQ562, l562, y562, z562⟩, st562⟩ := X560.virtualBack hx (y := mN59) (z := mN59) hown (mw hZ hw 381 rfl) (mw hZ hw 382 rfl) (notFace_of_selects (args := #[]) (mw hZ hw 384 rfl)) (mw hZ hw 384 rfl) (mw hZ hw 383 rfl) (by decide) (backOf (W := 1) (rm_typ l Z a0 hw [] ta tl tx T560.heap n0 (Nat.le_trans Z0 Ex561.1) (HC.ext Ex561)) hZ (wq hw 385 rfl) (wq hw 88 rfl) (by decide) (by decide)) q562a q562c (g := (mkF m 49 #[vR ts, vR ta, .unset, vR a551] [(.ref ta), (.ref a551)])) rfl (by rw [hml]; rfl) (Steps.refl _) (argsL := []) (rest := [(.ref a551)]) (lenOf pd_37 rfl) rfl (w0 rfl) (dq (dg dof 17 rfl)) (fun _ _ => ⟨rfl, rfl, (by decide : 2 + 0 ≤ _), (by decide : 7 + 0 ≤ _)⟩)
  dsimp only [Pt.U, Pt.locs, Pt.cells, Pt.slots] at X562 l562 y562 z562 st562 hQ562
  subst l562 y562 z562
  obtain ⟨rfl, Nq562, e562⟩ := hQ562
  have N562 := Fr.app N560 Nq562
  refine R2 st562 ?_
  show Rch p e below T562 (mkF m 52 #[vR ts, vR ta, .unset, vR a551] [(.ref tl), (.ref a551)]) _
  obtain ⟨cq563, kq563, q563a, q563b, q563c⟩ := isOf hZ e562 AL560.1
  obtain ⟨_, _, ⟨T563, L563, k563, n563⟩, -, X563, ⟨Lc563, hQ563, l563, y563, z563⟩, st563⟩ := X562.interfaceBack hx (xi := mN70) (y := mN19) hown (mw hZ hw 152 rfl) (mw hZ hw 153 rfl) (mw hZ hw 154 rfl) (mw hZ hw 155 rfl) (mw hZ hw 156 rfl) (mw hZ hw 157 rfl) (mw hZ hw 158 rfl) (mw hZ hw 114 rfl) (by decide) (backOf (W := 0) (rm_addAll l Z a0 hw [] a551 ea556 tl ea mr (3 : Int32) (1 : Int32) 10 (2 : Int32) [(.ref ts)] [(.ref y0), (.ref y1)] [(.ref y0), (.ref y1)] T560.heap n0 (Nat.le_trans Z0 Ex561.1) (Nat.le_trans Z0 le553) (Nat.le_trans Z0 le558) AL560 (A.ext Ex561) MR (by decide) (by decide) (by decide) rfl (fun v hv => by simp only [List.mem_cons, List.not_mem_nil, or_false] at hv; rcases hv with rfl | rfl <;> first | exact ⟨_, rfl, (EX0.ext Ex561)⟩ | exact ⟨_, rfl, (EX1.ext Ex561)⟩) (by decide) (by decide) (by decide) rfl (Nat.le_of_ble_eq_true rfl)) hZ (wq hw 159 rfl) (wq hw 33 rfl) (by decide) (by decide)) q563a q563b q563c (g := (mkF m 52 #[vR ts, vR ta, .unset, vR a551] [(.ref tl), (.ref a551)])) rfl (by rw [hml]; rfl) (Steps.refl _) (argsL := [(.ref tl)]) (rest := []) (lenOf pd_31 rfl) rfl (w0 rfl) (dq (dg dof 18 rfl)) (fun _ _ => ⟨rfl, e562, (by decide : 2 + 1 ≤ _), (by decide : 7 + 4 ≤ _)⟩)
  dsimp only [Pt.U, Pt.locs, Pt.cells, Pt.slots] at X563 l563 y563 z563 st563 hQ563
  subst l563 y563 z563
  obtain ⟨rfl, Nq563, K563, A563⟩ := hQ563
  have N563 := Fr.app N562 Nq563
  have Ex564 : Ext h0 T563.heap := extKeep Ex561 K563 (allS le553 (allS le558 all0))
  refine R2 st563 ?_
  show Rch p e below T563 (mkF m 57 #[vR ts, vR ta, .unset, vR a551] [(.int (1 : Int32))]) _
  have AL563 : Al Z T563.heap a551 ea556 (3 : Int32) (3 : Int32) [(.ref ts), (.ref y0), (.ref y1)] := by have q := A563; rw [show (1 : Int32) + (2 : Int32) = (3 : Int32) from by decide] at q; exact q
  refine R1 (XT.pop X563.here hx rfl (dq (dg dof 19 rfl)) rfl rfl) ?_
  show Rch p e below T563 (mkF m 58 #[vR ts, vR ta, .unset, vR a551] []) _
  obtain ⟨T565, h565, X565, e565, E565, A565, D565, -, st565⟩ := newO X563 hx hZ hown (wq hw 198 rfl) (wq hw 87 rfl) (wq hw 88 rfl) rfl (g := (mkF m 58 #[vR ts, vR ta, .unset, vR a551] [])) rfl (dq (dg dof 20 rfl)) (by decide) (by decide)
  obtain ⟨a565, g565⟩ : ∃ z, z = T563.heap.size := ⟨_, rfl⟩
  rw [← g565] at A565 D565 st565
  have Ex566 : Ext h0 h565 := Ex564.tr E565
  have Ex567 : Ext T563.heap h565 := E565
  have le568 : h0.size ≤ a565 := Nat.le_trans Ex564.1 (Nat.le_of_eq g565.symm)
  refine R0_ st565 ?_
  show Rch p e below T565 (mkF m 61 #[vR ts, vR ta, .unset, vR a551] [(.ref a565)]) _
  refine R1 (XS.dup X565.here hx rfl (dq (dg dof 21 rfl)) rfl rfl) ?_
  refine R1 (XS.aloadN X565.here hx rfl (dq (dg dof 22 rfl)) rfl rfl) ?_
  show Rch p e below T565 (mkF m 63 #[vR ts, vR ta, .unset, vR a551] [(.ref a551), (.ref a565), (.ref a565)]) _
  obtain ⟨_, _, ⟨T570, L570, k570, n570⟩, -, X570, ⟨Lc570, hQ570, l570, y570, z570⟩, st570⟩ := Jvm.LawKit.callS X565 hx (y := mN29) hown (mw hZ hw 199 rfl) (mw hZ hw 200 rfl) (mw hZ hw 201 rfl) (mw hZ hw 202 rfl) (by decide) (backOf (W := 2) (rm_cpo3 l Z a0 hw [] a551 ea556 mr ts y0 y1 h565 n0 (Nat.le_trans Z0 Ex566.1) (AL563.ext Ex567) MR (SS.ext Ex566).exa (EX0.ext Ex566) (EX1.ext Ex566)) hZ (wq hw 202 rfl) (wq hw 201 rfl) (by decide) (by decide)) (g := (mkF m 63 #[vR ts, vR ta, .unset, vR a551] [(.ref a551), (.ref a565), (.ref a565)])) rfl (by rw [hml]; rfl) (argsL := [(.ref a551)]) (rest := [(.ref a565), (.ref a565)]) (lenOf pd_13 rfl) rfl (w0 rfl) (dq (dg dof 23 rfl)) (fun _ _ => ⟨rfl, e565, (by decide : 4 + 3 ≤ _), (by decide : 13 + 9 ≤ _)⟩)
  dsimp only [Pt.U, Pt.locs, Pt.cells, Pt.slots] at X570 l570 y570 z570 st570 hQ570
  subst l570 y570 z570
  obtain ⟨t570, rfl, Nq570, E570, le570_, R570⟩ := hQ570
  have N570 := Fr.app N563 Nq570
  have Ex571 : Ext h0 T570.heap := Ex566.tr E570
  have Ex573 : Ext h565 T570.heap := E570
  refine R0_ st570 ?_
  show Rch p e below T570 (mkF m 66 #[vR ts, vR ta, .unset, vR a551] [(.ref t570), (.ref a565), (.ref a565)]) _
  obtain ⟨T574, h574, X574, e574, E574, A574, D574, -, st574⟩ := newO X570 hx hZ hown (wq hw 253 rfl) (wq hw 254 rfl) (wq hw 255 rfl) rfl (g := (mkF m 66 #[vR ts, vR ta, .unset, vR a551] [(.ref t570), (.ref a565), (.ref a565)])) rfl (dq (dg dof 24 rfl)) (by decide) (by decide)
  obtain ⟨a574, g574⟩ : ∃ z, z = T570.heap.size := ⟨_, rfl⟩
  rw [← g574] at A574 D574 st574
  have Ex575 : Ext h0 h574 := Ex571.tr E574
  have Ex577 : Ext h565 h574 := Ex573.tr E574
  have Ex578 : Ext T570.heap h574 := E574
  have le579 : h0.size ≤ a574 := Nat.le_trans Ex571.1 (Nat.le_of_eq g574.symm)
  have le581 : h565.size ≤ a574 := Nat.le_trans Ex573.1 (Nat.le_of_eq g574.symm)
  have le582 : T570.heap.size ≤ a574 := Nat.le_of_eq g574.symm
  refine R0_ st574 ?_
  show Rch p e below T574 (mkF m 69 #[vR ts, vR ta, .unset, vR a551] [(.ref a574), (.ref t570), (.ref a565), (.ref a565)]) _
  refine R1 (XS.dup X574.here hx rfl (dq (dg dof 25 rfl)) rfl rfl) ?_
  show Rch p e below T574 (mkF m 70 #[vR ts, vR ta, .unset, vR a551] [(.ref a574), (.ref a574), (.ref t570), (.ref a565), (.ref a565)]) _
  obtain ⟨_, _, ⟨T583, L583, k583, n583⟩, -, X583, ⟨Lc583, hQ583, l583, y583, z583⟩, st583⟩ := X574.specialBack hx (y := mN38) rfl hown (mw hZ hw 256 rfl) (mw hZ hw 257 rfl) (mw hZ hw 258 rfl) (by decide) (backOf (W := 4) (rm_sbInit l Z a0 hw [] a574 h574 n0 (Nat.le_trans Z0 Ex575.1) (Nat.le_trans Z0 le579) A574 ((D574 (Or.inl (wq hw 268 rfl)) (ty := (.array .byte)) (by decide)).ext Ext.rf) ((D574 (Or.inl (wq hw 270 rfl)) (ty := .byte) (by decide)).ext Ext.rf) ((D574 (Or.inl (wq hw 292 rfl)) (ty := .int) (by decide)).ext Ext.rf) (CS.ext Ex575)) hZ (wq hw 258 rfl) (wq hw 255 rfl) (by decide) (by decide)) (g := (mkF m 70 #[vR ts, vR ta, .unset, vR a551] [(.ref a574), (.ref a574), (.ref t570), (.ref a565), (.ref a565)])) rfl (by rw [hml]; rfl) (Steps.refl _) (a := a574) (argsL := []) (rest := [(.ref a574), (.ref t570), (.ref a565), (.ref a565)]) (lenOf pd_0 rfl) rfl (w0 rfl) (dq (dg dof 26 rfl)) (fun _ _ => ⟨rfl, e574, (by decide : 8 + 1 ≤ _), (by decide : 26 + 16 ≤ _)⟩)
  dsimp only [Pt.U, Pt.locs, Pt.cells, Pt.slots] at X583 l583 y583 z583 st583 hQ583
  subst l583 y583 z583
  obtain ⟨va583, rfl, Nq583, K583, le583_, B583⟩ := hQ583
  have N583 := Fr.app N570 Nq583
  have Ex584 : Ext h0 T583.heap := extKeep Ex575 K583 (allS le579 all0)
  have Ex586 : Ext h565 T583.heap := extKeep Ex577 K583 (allS le581 all0)
  have Ex587 : Ext T570.heap T583.heap := extKeep Ex578 K583 (allS le582 all0)
  refine R2 st583 ?_
  show Rch p e below T583 (mkF m 73 #[vR ts, vR ta, .unset, vR a551] [(.ref a574), (.ref t570), (.ref a565), (.ref a565)]) _
  have le588 : h0.size ≤ va583 := Nat.le_trans Ex575.1 le583_
  have le590 : h565.size ≤ va583 := Nat.le_trans Ex577.1 le583_
  have le591 : T570.heap.size ≤ va583 := Nat.le_trans Ex578.1 le583_
  refine R1 (XS.aloadN X583.here hx rfl (dq (dg dof 27 rfl)) rfl rfl) ?_
  show Rch p e below T583 (mkF m 74 #[vR ts, vR ta, .unset, vR a551] [(.ref ts), (.ref a574), (.ref t570), (.ref a565), (.ref a565)]) _
  obtain ⟨cq593, kq593, q593a, q593b, q593c⟩ := isOf hZ rfl B583.1
  obtain ⟨_, _, ⟨T593, L593, k593, n593⟩, -, X593, ⟨Lc593, hQ593, l593, y593, z593⟩, st593⟩ := X583.virtualBack hx (y := mN48) (z := mN48) hown (mw hZ hw 271 rfl) (mw hZ hw 272 rfl) (notFace_of_selects (args := #[]) (mw hZ hw 274 rfl)) (mw hZ hw 274 rfl) (mw hZ hw 273 rfl) (by decide) (backOf (W := 3) (rm_sbApp l Z a0 hw [] a574 va583 ts (0) ns T583.heap n0 (Nat.le_trans Z0 Ex584.1) B583 (SS.ext Ex584) (Nat.le_trans Z0 le579) (Nat.le_trans Z0 le588) (by omega) (CS.ext Ex584)) hZ (wq hw 275 rfl) (wq hw 255 rfl) (by decide) (by decide)) q593a q593c (g := (mkF m 74 #[vR ts, vR ta, .unset, vR a551] [(.ref ts), (.ref a574), (.ref t570), (.ref a565), (.ref a565)])) rfl (by rw [hml]; rfl) (Steps.refl _) (argsL := [(.ref ts)]) (rest := [(.ref t570), (.ref a565), (.ref a565)]) (lenOf pd_33 rfl) rfl (w0 rfl) (dq (dg dof 28 rfl)) (fun _ _ => ⟨rfl, rfl, (by decide : 9 + 0 ≤ _), (by decide : 42 + 0 ≤ _)⟩)
  dsimp only [Pt.U, Pt.locs, Pt.cells, Pt.slots] at X593 l593 y593 z593 st593 hQ593
  subst l593 y593 z593
  obtain ⟨rfl, Nq593, K593, B593⟩ := hQ593
  have N593 := Fr.app N583 Nq593
  have Ex594 : Ext h0 T593.heap := extKeep Ex584 K593 (allS le579 (allS le588 all0))
  have Ex596 : Ext h565 T593.heap := extKeep Ex586 K593 (allS le581 (allS le590 all0))
  have Ex597 : Ext T570.heap T593.heap := extKeep Ex587 K593 (allS le582 (allS le591 all0))
  refine R2 st593 ?_
  show Rch p e below T593 (mkF m 77 #[vR ts, vR ta, .unset, vR a551] [(.ref a574), (.ref t570), (.ref a565), (.ref a565)]) _
  refine R1 (XS.bipush X593.here hx rfl (dq (dg dof 29 rfl)) ) ?_
  show Rch p e below T593 (mkF m 79 #[vR ts, vR ta, .unset, vR a551] [(.int (32 : Int32)), (.ref a574), (.ref t570), (.ref a565), (.ref a565)]) _
  obtain ⟨cq598, kq598, q598a, q598b, q598c⟩ := isOf hZ rfl B593.1
  obtain ⟨_, _, ⟨T598, L598, k598, n598⟩, -, X598, ⟨Lc598, hQ598, l598, y598, z598⟩, st598⟩ := X593.virtualBack hx (y := mN50) (z := mN50) hown (mw hZ hw 315 rfl) (mw hZ hw 316 rfl) (notFace_of_selects (args := #[]) (mw hZ hw 318 rfl)) (mw hZ hw 318 rfl) (mw hZ hw 317 rfl) (by decide) (backOf (W := 3) (rm_sbAppC l Z a0 hw [] a574 va583 (0 + ns) (32 : Int32) T593.heap n0 (Nat.le_trans Z0 Ex594.1) B593 (Nat.le_trans Z0 le579) (Nat.le_trans Z0 le588) (by omega) (by decide) (CS.ext Ex594)) hZ (wq hw 319 rfl) (wq hw 255 rfl) (by decide) (by decide)) q598a q598c (g := (mkF m 79 #[vR ts, vR ta, .unset, vR a551] [(.int (32 : Int32)), (.ref a574), (.ref t570), (.ref a565), (.ref a565)])) rfl (by rw [hml]; rfl) (Steps.refl _) (argsL := [(.int (32 : Int32))]) (rest := [(.ref t570), (.ref a565), (.ref a565)]) (lenOf pd_34 rfl) rfl (w0 rfl) (dq (dg dof 30 rfl)) (fun _ _ => ⟨rfl, rfl, (by decide : 9 + 0 ≤ _), (by decide : 42 + 0 ≤ _)⟩)
  dsimp only [Pt.U, Pt.locs, Pt.cells, Pt.slots] at X598 l598 y598 z598 st598 hQ598
  subst l598 y598 z598
  obtain ⟨rfl, Nq598, K598, B598⟩ := hQ598
  have N598 := Fr.app N593 Nq598
  have Ex599 : Ext h0 T598.heap := extKeep Ex594 K598 (allS le579 (allS le588 all0))
  have Ex601 : Ext h565 T598.heap := extKeep Ex596 K598 (allS le581 (allS le590 all0))
  have Ex602 : Ext T570.heap T598.heap := extKeep Ex597 K598 (allS le582 (allS le591 all0))
  refine R2 st598 ?_
  show Rch p e below T598 (mkF m 82 #[vR ts, vR ta, .unset, vR a551] [(.ref a574), (.ref t570), (.ref a565), (.ref a565)]) _
  refine R1 (XS.aloadN X598.here hx rfl (dq (dg dof 31 rfl)) rfl rfl) ?_
  show Rch p e below T598 (mkF m 83 #[vR ts, vR ta, .unset, vR a551] [(.ref ta), (.ref a574), (.ref t570), (.ref a565), (.ref a565)]) _
  obtain ⟨cq603, kq603, q603a, q603b, q603c⟩ := isOf hZ rfl (HC.ext Ex599).1
  obtain ⟨_, _, ⟨T603, L603, k603, n603⟩, -, X603, ⟨Lc603, hQ603, l603, y603, z603⟩, st603⟩ := X598.virtualBack hx (y := mN60) (z := mN60) hown (mw hZ hw 386 rfl) (mw hZ hw 387 rfl) (notFace_of_selects (args := #[]) (mw hZ hw 389 rfl)) (mw hZ hw 389 rfl) (mw hZ hw 388 rfl) (by decide) (backOf (W := 4) (rm_txt l Z a0 hw [] ta tl tx T598.heap n0 (Nat.le_trans Z0 Ex599.1) (HC.ext Ex599)) hZ (wq hw 390 rfl) (wq hw 88 rfl) (by decide) (by decide)) q603a q603c (g := (mkF m 83 #[vR ts, vR ta, .unset, vR a551] [(.ref ta), (.ref a574), (.ref t570), (.ref a565), (.ref a565)])) rfl (by rw [hml]; rfl) (Steps.refl _) (argsL := []) (rest := [(.ref a574), (.ref t570), (.ref a565), (.ref a565)]) (lenOf pd_35 rfl) rfl (w0 rfl) (dq (dg dof 32 rfl)) (fun _ _ => ⟨rfl, rfl, (by decide : 9 + 0 ≤ _), (by decide : 42 + 0 ≤ _)⟩)
  dsimp only [Pt.U, Pt.locs, Pt.cells, Pt.slots] at X603 l603 y603 z603 st603 hQ603
  subst l603 y603 z603
  obtain ⟨rfl, Nq603, e603⟩ := hQ603
  have N603 := Fr.app N598 Nq603
  refine R2 st603 ?_
  show Rch p e below T603 (mkF m 86 #[vR ts, vR ta, .unset, vR a551] [(.ref tx), (.ref a574), (.ref t570), (.ref a565), (.ref a565)]) _
  obtain ⟨cq604, kq604, q604a, q604b, q604c⟩ := isOf hZ e603 B598.1
  obtain ⟨_, _, ⟨T604, L604, k604, n604⟩, -, X604, ⟨Lc604, hQ604, l604, y604, z604⟩, st604⟩ := X603.virtualBack hx (y := mN48) (z := mN48) hown (mw hZ hw 271 rfl) (mw hZ hw 272 rfl) (notFace_of_selects (args := #[]) (mw hZ hw 274 rfl)) (mw hZ hw 274 rfl) (mw hZ hw 273 rfl) (by decide) (backOf (W := 3) (rm_sbApp l Z a0 hw [] a574 va583 tx (0 + ns + 1) nt T598.heap n0 (Nat.le_trans Z0 Ex599.1) B598 (SX.ext Ex599) (Nat.le_trans Z0 le579) (Nat.le_trans Z0 le588) (by omega) (CS.ext Ex599)) hZ (wq hw 275 rfl) (wq hw 255 rfl) (by decide) (by decide)) q604a q604c (g := (mkF m 86 #[vR ts, vR ta, .unset, vR a551] [(.ref tx), (.ref a574), (.ref t570), (.ref a565), (.ref a565)])) rfl (by rw [hml]; rfl) (Steps.refl _) (argsL := [(.ref tx)]) (rest := [(.ref t570), (.ref a565), (.ref a565)]) (lenOf pd_33 rfl) rfl (w0 rfl) (dq (dg dof 33 rfl)) (fun _ _ => ⟨rfl, e603, (by decide : 9 + 0 ≤ _), (by decide : 42 + 0 ≤ _)⟩)
  dsimp only [Pt.U, Pt.locs, Pt.cells, Pt.slots] at X604 l604 y604 z604 st604 hQ604
  subst l604 y604 z604
  obtain ⟨rfl, Nq604, K604, B604⟩ := hQ604
  have N604 := Fr.app N603 Nq604
  have Ex605 : Ext h0 T604.heap := extKeep Ex599 K604 (allS le579 (allS le588 all0))
  have Ex607 : Ext h565 T604.heap := extKeep Ex601 K604 (allS le581 (allS le590 all0))
  have Ex608 : Ext T570.heap T604.heap := extKeep Ex602 K604 (allS le582 (allS le591 all0))
  refine R2 st604 ?_
  show Rch p e below T604 (mkF m 89 #[vR ts, vR ta, .unset, vR a551] [(.ref a574), (.ref t570), (.ref a565), (.ref a565)]) _
  obtain ⟨cq609, kq609, q609a, q609b, q609c⟩ := isOf hZ rfl B604.1
  obtain ⟨_, _, ⟨T609, L609, k609, n609⟩, -, X609, ⟨Lc609, hQ609, l609, y609, z609⟩, st609⟩ := X604.virtualBack hx (y := mN56) (z := mN56) hown (mw hZ hw 330 rfl) (mw hZ hw 331 rfl) (notFace_of_selects (args := #[]) (mw hZ hw 333 rfl)) (mw hZ hw 333 rfl) (mw hZ hw 332 rfl) (by decide) (backOf (W := 3) (rm_sbStr l Z a0 hw [] a574 va583 (0 + ns + 1 + nt) T604.heap n0 (Nat.le_trans Z0 Ex605.1) B604 (by omega) (CS.ext Ex605)) hZ (wq hw 334 rfl) (wq hw 255 rfl) (by decide) (by decide)) q609a q609c (g := (mkF m 89 #[vR ts, vR ta, .unset, vR a551] [(.ref a574), (.ref t570), (.ref a565), (.ref a565)])) rfl (by rw [hml]; rfl) (Steps.refl _) (argsL := []) (rest := [(.ref t570), (.ref a565), (.ref a565)]) (lenOf pd_35 rfl) rfl (w0 rfl) (dq (dg dof 34 rfl)) (fun _ _ => ⟨rfl, rfl, (by decide : 9 + 2 ≤ _), (by decide : 42 + 20 ≤ _)⟩)
  dsimp only [Pt.U, Pt.locs, Pt.cells, Pt.slots] at X609 l609 y609 z609 st609 hQ609
  subst l609 y609 z609
  obtain ⟨t609, rfl, Nq609, E609, le609_, EX609⟩ := hQ609
  have N609 := Fr.app N604 Nq609
  have Ex610 : Ext h0 T609.heap := Ex605.tr E609
  have Ex612 : Ext h565 T609.heap := Ex607.tr E609
  have Ex613 : Ext T570.heap T609.heap := Ex608.tr E609
  refine R2 st609 ?_
  show Rch p e below T609 (mkF m 92 #[vR ts, vR ta, .unset, vR a551] [(.ref t609), (.ref t570), (.ref a565), (.ref a565)]) _
  obtain ⟨_, _, ⟨T615, L615, k615, n615⟩, -, X615, ⟨Lc615, hQ615, l615, y615, z615⟩, st615⟩ := X609.specialBack hx (y := mN58) rfl hown (mw hZ hw 365 rfl) (mw hZ hw 90 rfl) (mw hZ hw 91 rfl) (by decide) (backOf (W := 1) (rm_chI l Z a0 hw [] a565 t570 t609 T609.heap n0 (Nat.le_trans Z0 Ex610.1) (Nat.le_trans Z0 le568) (A565.ext Ex612) ((D565 (Or.inr (wq hw 99 rfl)) (ty := (.object "java/util/List")) (by decide)).ext Ex612) ((D565 (Or.inr (wq hw 101 rfl)) (ty := (.object "java/lang/String")) (by decide)).ext Ex612)) hZ (wq hw 91 rfl) (wq hw 88 rfl) (by decide) (by decide)) (g := (mkF m 92 #[vR ts, vR ta, .unset, vR a551] [(.ref t609), (.ref t570), (.ref a565), (.ref a565)])) rfl (by rw [hml]; rfl) (Steps.refl _) (a := a565) (argsL := [(.ref t570), (.ref t609)]) (rest := [(.ref a565)]) (lenOf pd_36 rfl) rfl (w0 rfl) (dq (dg dof 35 rfl)) (fun _ _ => ⟨rfl, rfl, (by decide : 11 + 0 ≤ _), (by decide : 62 + 0 ≤ _)⟩)
  dsimp only [Pt.U, Pt.locs, Pt.cells, Pt.slots] at X615 l615 y615 z615 st615 hQ615
  subst l615 y615 z615
  obtain ⟨rfl, Nq615, K615, G615⟩ := hQ615
  have N615 := Fr.app N609 Nq615
  have Ex616 : Ext h0 T615.heap := extKeep Ex610 K615 (allS le568 all0)
  refine R2 st615 ?_
  show Rch p e below T615 (mkF m 95 #[vR ts, vR ta, .unset, vR a551] [(.ref a565)]) _
  have R9 := (R570.ext Ex613).keepC K615 (A565.ext Ex612)
  refine R1 (XS.astoreN X615.here hx rfl (dq (dg dof 36 rfl)) rfl rfl (l' := #[vR ts, vR ta, vR a565, vR a551]) rfl) ?_
  refine R1 (XS.aloadN X615.here hx rfl (dq (dg dof 37 rfl)) rfl rfl) ?_
  show Rch p e below T615 (mkF m 97 #[vR ts, vR ta, vR a565, vR a551] [(.ref a565)]) _
  exact Rch.fin (Q := Q_of2 Z ta tl tx ts ea mr y0 y1 nt ns h0 n0) X615 (v := some (.ref a565)) (fun h => by rw [Bd.returns] at h; cases h) (BodyLoose.notSynchronized Bd) (fun fs hr => retR X615 hx Bd.returns rfl rfl (dq (dg dof 38 rfl)) hr) ⟨a565, t570, t609, rfl, N615, Ex616, G615, R9⟩ (by decide) (by decide)
def Q_th3 (Z : State) (ta tl tx ts ea mr y0 y1 y2 : Addr) (nt ns : Nat) (h0 : Heap) (n0 : Nat) (v : Option Value) (h : Heap) (L : List Loc) : Prop := ∃ r t u, v = some (.ref r) ∧ Fr n0 L ∧ Ext h0 h ∧ Chn Z h r t u ∧ LNp Z h t (4 : Int32) [(.ref y0), (.ref y1), (.ref y2), (.ref ts)]
set_option maxRecDepth 65536 in
set_option maxHeartbeats 40000000 in
theorem rm_th3 (l : Launch) (Z : State) (a0 : Array Value) (hw : ∀ d ∈ tables_1, d.before a0 Z = true) (ws : List Jvm.Cond) (ta tl tx ts ea mr y0 y1 y2 : Addr) (nt ns : Nat) (h0 : Heap) (n0 : Nat) (Z0 : n0 ≤ h0.size) (HC : Chn Z h0 ta tl tx) (A : Al Z h0 tl ea 10 (3 : Int32) [(.ref y0), (.ref y1), (.ref y2)]) (MR : Mi Z "[Ljava/lang/Object;" mr) (SX : Sl Z h0 tx nt) (SS : Sl Z h0 ts ns) (hnt : nt ≤ 2) (hns : ns ≤ 2) (CS : Cmp Z h0) (EX0 : Exa Z h0 y0 "java/lang/String") (EX1 : Exa Z h0 y1 "java/lang/String") (EX2 : Exa Z h0 y2 "java/lang/String") :
    MetFree l mN69 (head1 (Jvm.Cond.code mN69 prog_12_method_3_code 3 (some (.object "com/example/ampersat/ampersat/index/MetaChains$Chain")) :: ws) rO45) (fun a U => a = #[(.ref ta), (.ref ts)] ∧ Z.Warmed39 U.vm ∧ U.heap = h0) (fun _ _ _ _ _ => True) (fun _ U o U' => ∃ v L, o = .returned v ∧ Q_th3 Z ta tl tx ts ea mr y0 y1 y2 nt ns h0 n0 v U'.heap L ∧ FrameEnd U o U' L rO45.cells rO45.slots) := by
  refine MetFree.of_bodySF pn_th1 hisR ?_
  intro p e s m args below meth c s₁ Bd hml0 hP hK
  obtain ⟨rfl, hZ, hh⟩ := hP
  have hx := Bd.exec
  have hby := Bd.bytes
  have dq := @hb _ _ hby
  have hml : c.maxLocals = 3 := hml0
  have hown : s.vm.findClass "com/example/ampersat/ampersat/index/MetaChains$Chain" = some m.cls := findClass_of_methodNamed Bd.named
  have X0 : Stand p l e rO45 s m #[(.ref ta), (.ref ts)] below meth c s₁ [] 0 0 := Stand.of_body Bd
  have e0 : s₁.heap = h0 := by rw [← hh, Bd.state]; rfl
  have N0 := Fr.nil n0
  show Rch p e below s₁ (entryFrame m #[(.ref ta), (.ref ts)] 3) (fun U o => ∃ v L, o = .returned v ∧ Q_th3 Z ta tl tx ts ea mr y0 y1 y2 nt ns h0 n0 v U.heap L ∧ FrameEnd s o U L rO45.cells rO45.slots)
  refine Rch.cast (ef_asbApp m ta ts) ?_
  show Rch p e below s₁ (mkF m 0 #[vR ta, vR ts, .unset] []) _
  obtain ⟨T618, h618, X618, e618, E618, A618, D618, -, st618⟩ := newO X0 hx hZ hown (wq hw 148 rfl) (wq hw 32 rfl) (wq hw 33 rfl) e0 (g := (mkF m 0 #[vR ta, vR ts, .unset] [])) rfl (dq (dg dth 0 rfl)) (by decide) (by decide)
  obtain ⟨a618, g618⟩ : ∃ z, z = h0.size := ⟨_, rfl⟩
  rw [← g618] at A618 D618 st618
  have Ex619 : Ext h0 h618 := E618
  have le620 : h0.size ≤ a618 := Nat.le_of_eq g618.symm
  refine R0_ st618 ?_
  show Rch p e below T618 (mkF m 3 #[vR ta, vR ts, .unset] [(.ref a618)]) _
  refine R1 (XS.dup X618.here hx rfl (dq (dg dth 1 rfl)) rfl rfl) ?_
  refine R1 (XS.aloadN X618.here hx rfl (dq (dg dth 2 rfl)) rfl rfl) ?_
  show Rch p e below T618 (mkF m 5 #[vR ta, vR ts, .unset] [(.ref ta), (.ref a618), (.ref a618)]) _
  obtain ⟨T621, X621, e621, st621⟩ := getF X618 hx hZ hown (host := "") (Or.inl (wq hw 98 rfl)) Via.refl e618 (HC.ext Ex619).2.1 (g := (mkF m 5 #[vR ta, vR ts, .unset] [(.ref ta), (.ref a618), (.ref a618)])) rfl rfl (dq (dg dth 3 rfl))
  refine R0_ st621 ?_
  show Rch p e below T621 (mkF m 8 #[vR ta, vR ts, .unset] [(.ref tl), (.ref a618), (.ref a618)]) _
  obtain ⟨cq622, kq622, q622a, q622b, q622c⟩ := isOf hZ e621 (A.ext Ex619).1
  obtain ⟨_, _, ⟨T622, L622, k622, n622⟩, -, X622, ⟨Lc622, hQ622, l622, y622, z622⟩, st622⟩ := X621.interfaceBack hx (xi := mN66) (y := mN8) hown (mw hZ hw 107 rfl) (mw hZ hw 108 rfl) (mw hZ hw 109 rfl) (mw hZ hw 110 rfl) (mw hZ hw 111 rfl) (mw hZ hw 112 rfl) (mw hZ hw 113 rfl) (mw hZ hw 114 rfl) (by decide) (backOf (W := 2) (rm_alSize l Z a0 hw [] tl ea 10 (3 : Int32) [(.ref y0), (.ref y1), (.ref y2)] h618 n0 (Nat.le_trans Z0 Ex619.1) (A.ext Ex619)) hZ (wq hw 115 rfl) (wq hw 33 rfl) (by decide) (by decide)) q622a q622b q622c (g := (mkF m 8 #[vR ta, vR ts, .unset] [(.ref tl), (.ref a618), (.ref a618)])) rfl (by rw [hml]; rfl) (Steps.refl _) (argsL := []) (rest := [(.ref a618), (.ref a618)]) (lenOf pd_20 rfl) rfl (w0 rfl) (dq (dg dth 4 rfl)) (fun _ _ => ⟨rfl, e621, (by decide : 1 + 0 ≤ _), (by decide : 3 + 0 ≤ _)⟩)
  dsimp only [Pt.U, Pt.locs, Pt.cells, Pt.slots] at X622 l622 y622 z622 st622 hQ622
  subst l622 y622 z622
  obtain ⟨rfl, Nq622, e622⟩ := hQ622
  have N622 := Fr.app N0 Nq622
  refine R2 st622 ?_
  show Rch p e below T622 (mkF m 13 #[vR ta, vR ts, .unset] [(.int (3 : Int32)), (.ref a618), (.ref a618)]) _
  refine R1 (XS.iconst X622.here hx rfl (dq (dg dth 5 rfl)) ) ?_
  refine R1 (XS.iadd X622.here hx rfl (dq (dg dth 6 rfl)) rfl) ?_
  show Rch p e below T622 (mkF m 15 #[vR ta, vR ts, .unset] [(.int ((3 : Int32) + (1 : Int32))), (.ref a618), (.ref a618)]) _
  rw [show ((3 : Int32) + (1 : Int32)) = (4 : Int32) from by decide]
  show Rch p e below T622 (mkF m 15 #[vR ta, vR ts, .unset] [(.int (4 : Int32)), (.ref a618), (.ref a618)]) _
  obtain ⟨_, _, ⟨T623, L623, k623, n623⟩, -, X623, ⟨Lc623, hQ623, l623, y623, z623⟩, st623⟩ := X622.specialBack hx (y := mN18) rfl hown (mw hZ hw 149 rfl) (mw hZ hw 150 rfl) (mw hZ hw 151 rfl) (by decide) (backOf (W := 1) (rm_alInitN l Z a0 hw [] a618 (4 : Int32) .null h618 n0 (Nat.le_trans Z0 Ex619.1) (Nat.le_trans Z0 le620) A618 ((D618 (Or.inl (wq hw 54 rfl)) (ty := (.array (.object "java/lang/Object"))) (by decide)).ext Ext.rf) ((D618 (Or.inl (wq hw 63 rfl)) (ty := .int) (by decide)).ext Ext.rf) ((D618 (Or.inl (wq hw 51 rfl)) (ty := .int) (by decide)).ext Ext.rf) (by decide) (by decide) (by decide)) hZ (wq hw 151 rfl) (wq hw 33 rfl) (by decide) (by decide)) (g := (mkF m 15 #[vR ta, vR ts, .unset] [(.int (4 : Int32)), (.ref a618), (.ref a618)])) rfl (by rw [hml]; rfl) (Steps.refl _) (a := a618) (argsL := [(.int (4 : Int32))]) (rest := [(.ref a618)]) (lenOf pd_19 rfl) rfl (w0 rfl) (dq (dg dth 7 rfl)) (fun _ _ => ⟨rfl, e622, (by decide : 1 + 1 ≤ _), (by decide : 3 + 4 ≤ _)⟩)
  dsimp only [Pt.U, Pt.locs, Pt.cells, Pt.slots] at X623 l623 y623 z623 st623 hQ623
  subst l623 y623 z623
  obtain ⟨ea623, rfl, Nq623, K623, le623_, A623⟩ := hQ623
  have N623 := Fr.app N622 Nq623
  have Ex624 : Ext h0 T623.heap := extKeep Ex619 K623 (allS le620 all0)
  refine R2 st623 ?_
  show Rch p e below T623 (mkF m 18 #[vR ta, vR ts, .unset] [(.ref a618)]) _
  have le625 : h0.size ≤ ea623 := Nat.le_trans Ex619.1 le623_
  refine R1 (XS.astoreN X623.here hx rfl (dq (dg dth 8 rfl)) rfl rfl (l' := #[vR ta, vR ts, vR a618]) rfl) ?_
  refine R1 (XS.aloadN X623.here hx rfl (dq (dg dth 9 rfl)) rfl rfl) ?_
  refine R1 (XS.aloadN X623.here hx rfl (dq (dg dth 10 rfl)) rfl rfl) ?_
  show Rch p e below T623 (mkF m 21 #[vR ta, vR ts, vR a618] [(.ref ta), (.ref a618)]) _
  obtain ⟨T627, X627, e627, st627⟩ := getF X623 hx hZ hown (host := "") (Or.inl (wq hw 98 rfl)) Via.refl rfl (HC.ext Ex624).2.1 (g := (mkF m 21 #[vR ta, vR ts, vR a618] [(.ref ta), (.ref a618)])) rfl rfl (dq (dg dth 11 rfl))
  refine R0_ st627 ?_
  show Rch p e below T627 (mkF m 24 #[vR ta, vR ts, vR a618] [(.ref tl), (.ref a618)]) _
  obtain ⟨cq628, kq628, q628a, q628b, q628c⟩ := isOf hZ e627 A623.1
  obtain ⟨_, _, ⟨T628, L628, k628, n628⟩, -, X628, ⟨Lc628, hQ628, l628, y628, z628⟩, st628⟩ := X627.interfaceBack hx (xi := mN70) (y := mN19) hown (mw hZ hw 152 rfl) (mw hZ hw 153 rfl) (mw hZ hw 154 rfl) (mw hZ hw 155 rfl) (mw hZ hw 156 rfl) (mw hZ hw 157 rfl) (mw hZ hw 158 rfl) (mw hZ hw 114 rfl) (by decide) (backOf (W := 0) (rm_addAll l Z a0 hw [] a618 ea623 tl ea mr (4 : Int32) (0 : Int32) 10 (3 : Int32) [] [(.ref y0), (.ref y1), (.ref y2)] [(.ref y0), (.ref y1), (.ref y2)] T623.heap n0 (Nat.le_trans Z0 Ex624.1) (Nat.le_trans Z0 le620) (Nat.le_trans Z0 le625) A623 (A.ext Ex624) MR (by decide) (by decide) (by decide) rfl (fun v hv => by simp only [List.mem_cons, List.not_mem_nil, or_false] at hv; rcases hv with rfl | rfl | rfl <;> first | exact ⟨_, rfl, (EX0.ext Ex624)⟩ | exact ⟨_, rfl, (EX1.ext Ex624)⟩ | exact ⟨_, rfl, (EX2.ext Ex624)⟩) (by decide) (by decide) (by decide) rfl (Nat.le_of_ble_eq_true rfl)) hZ (wq hw 159 rfl) (wq hw 33 rfl) (by decide) (by decide)) q628a q628b q628c (g := (mkF m 24 #[vR ta, vR ts, vR a618] [(.ref tl), (.ref a618)])) rfl (by rw [hml]; rfl) (Steps.refl _) (argsL := [(.ref tl)]) (rest := []) (lenOf pd_31 rfl) rfl (w0 rfl) (dq (dg dth 12 rfl)) (fun _ _ => ⟨rfl, e627, (by decide : 2 + 1 ≤ _), (by decide : 7 + 4 ≤ _)⟩)
  dsimp only [Pt.U, Pt.locs, Pt.cells, Pt.slots] at X628 l628 y628 z628 st628 hQ628
  subst l628 y628 z628
  obtain ⟨rfl, Nq628, K628, A628⟩ := hQ628
  have N628 := Fr.app N623 Nq628
  have Ex629 : Ext h0 T628.heap := extKeep Ex624 K628 (allS le620 (allS le625 all0))
  refine R2 st628 ?_
  show Rch p e below T628 (mkF m 29 #[vR ta, vR ts, vR a618] [(.int (1 : Int32))]) _
  have AL628 : Al Z T628.heap a618 ea623 (4 : Int32) (3 : Int32) [(.ref y0), (.ref y1), (.ref y2)] := by have q := A628; rw [show (0 : Int32) + (3 : Int32) = (3 : Int32) from by decide] at q; exact q
  refine R1 (XT.pop X628.here hx rfl (dq (dg dth 13 rfl)) rfl rfl) ?_
  refine R1 (XS.aloadN X628.here hx rfl (dq (dg dth 14 rfl)) rfl rfl) ?_
  refine R1 (XS.aloadN X628.here hx rfl (dq (dg dth 15 rfl)) rfl rfl) ?_
  show Rch p e below T628 (mkF m 32 #[vR ta, vR ts, vR a618] [(.ref ts), (.ref a618)]) _
  obtain ⟨cq630, kq630, q630a, q630b, q630c⟩ := isOf hZ rfl AL628.1
  obtain ⟨_, _, ⟨T630, L630, k630, n630⟩, -, X630, ⟨Lc630, hQ630, l630, y630, z630⟩, st630⟩ := X628.interfaceBack hx (xi := mN71) (y := mN7) hown (mw hZ hw 192 rfl) (mw hZ hw 193 rfl) (mw hZ hw 194 rfl) (mw hZ hw 195 rfl) (mw hZ hw 57 rfl) (mw hZ hw 196 rfl) (mw hZ hw 197 rfl) (mw hZ hw 114 rfl) (by decide) (backOf (W := 0) (rm_addR l Z a0 hw [] a618 ts ea623 (4 : Int32) (3 : Int32) [(.ref y0), (.ref y1), (.ref y2)] T628.heap n0 (Nat.le_trans Z0 Ex629.1) (Nat.le_trans Z0 le620) (Nat.le_trans Z0 le625) AL628 (SS.ext Ex629).exa (by decide) ⟨by decide, by decide⟩ rfl) hZ (wq hw 59 rfl) (wq hw 33 rfl) (by decide) (by decide)) q630a q630b q630c (g := (mkF m 32 #[vR ta, vR ts, vR a618] [(.ref ts), (.ref a618)])) rfl (by rw [hml]; rfl) (Steps.refl _) (argsL := [(.ref ts)]) (rest := []) (lenOf pd_32 rfl) rfl (w0 rfl) (dq (dg dth 16 rfl)) (fun _ _ => ⟨rfl, rfl, (by decide : 3 + 0 ≤ _), (by decide : 11 + 0 ≤ _)⟩)
  dsimp only [Pt.U, Pt.locs, Pt.cells, Pt.slots] at X630 l630 y630 z630 st630 hQ630
  subst l630 y630 z630
  obtain ⟨rfl, Nq630, K630, A630⟩ := hQ630
  have N630 := Fr.app N628 Nq630
  have Ex631 : Ext h0 T630.heap := extKeep Ex629 K630 (allS le620 (allS le625 all0))
  refine R2 st630 ?_
  show Rch p e below T630 (mkF m 37 #[vR ta, vR ts, vR a618] [(.int (1 : Int32))]) _
  have AL630 : Al Z T630.heap a618 ea623 (4 : Int32) (4 : Int32) [(.ref y0), (.ref y1), (.ref y2), (.ref ts)] := by have q := A630; rw [show (3 : Int32) + (1 : Int32) = (4 : Int32) from by decide] at q; exact q
  refine R1 (XT.pop X630.here hx rfl (dq (dg dth 17 rfl)) rfl rfl) ?_
  show Rch p e below T630 (mkF m 38 #[vR ta, vR ts, vR a618] []) _
  obtain ⟨T632, h632, X632, e632, E632, A632, D632, -, st632⟩ := newO X630 hx hZ hown (wq hw 198 rfl) (wq hw 87 rfl) (wq hw 88 rfl) rfl (g := (mkF m 38 #[vR ta, vR ts, vR a618] [])) rfl (dq (dg dth 18 rfl)) (by decide) (by decide)
  obtain ⟨a632, g632⟩ : ∃ z, z = T630.heap.size := ⟨_, rfl⟩
  rw [← g632] at A632 D632 st632
  have Ex633 : Ext h0 h632 := Ex631.tr E632
  have Ex634 : Ext T630.heap h632 := E632
  have le635 : h0.size ≤ a632 := Nat.le_trans Ex631.1 (Nat.le_of_eq g632.symm)
  refine R0_ st632 ?_
  show Rch p e below T632 (mkF m 41 #[vR ta, vR ts, vR a618] [(.ref a632)]) _
  refine R1 (XS.dup X632.here hx rfl (dq (dg dth 19 rfl)) rfl rfl) ?_
  refine R1 (XS.aloadN X632.here hx rfl (dq (dg dth 20 rfl)) rfl rfl) ?_
  show Rch p e below T632 (mkF m 43 #[vR ta, vR ts, vR a618] [(.ref a618), (.ref a632), (.ref a632)]) _
  obtain ⟨_, _, ⟨T637, L637, k637, n637⟩, -, X637, ⟨Lc637, hQ637, l637, y637, z637⟩, st637⟩ := Jvm.LawKit.callS X632 hx (y := mN29) hown (mw hZ hw 199 rfl) (mw hZ hw 200 rfl) (mw hZ hw 201 rfl) (mw hZ hw 202 rfl) (by decide) (backOf (W := 2) (rm_cpo4 l Z a0 hw [] a618 ea623 mr y0 y1 y2 ts h632 n0 (Nat.le_trans Z0 Ex633.1) (AL630.ext Ex634) MR (EX0.ext Ex633) (EX1.ext Ex633) (EX2.ext Ex633) (SS.ext Ex633).exa) hZ (wq hw 202 rfl) (wq hw 201 rfl) (by decide) (by decide)) (g := (mkF m 43 #[vR ta, vR ts, vR a618] [(.ref a618), (.ref a632), (.ref a632)])) rfl (by rw [hml]; rfl) (argsL := [(.ref a618)]) (rest := [(.ref a632), (.ref a632)]) (lenOf pd_13 rfl) rfl (w0 rfl) (dq (dg dth 21 rfl)) (fun _ _ => ⟨rfl, e632, (by decide : 4 + 3 ≤ _), (by decide : 13 + 10 ≤ _)⟩)
  dsimp only [Pt.U, Pt.locs, Pt.cells, Pt.slots] at X637 l637 y637 z637 st637 hQ637
  subst l637 y637 z637
  obtain ⟨t637, rfl, Nq637, E637, le637_, R637⟩ := hQ637
  have N637 := Fr.app N630 Nq637
  have Ex638 : Ext h0 T637.heap := Ex633.tr E637
  have Ex640 : Ext h632 T637.heap := E637
  refine R0_ st637 ?_
  show Rch p e below T637 (mkF m 46 #[vR ta, vR ts, vR a618] [(.ref t637), (.ref a632), (.ref a632)]) _
  obtain ⟨T641, h641, X641, e641, E641, A641, D641, -, st641⟩ := newO X637 hx hZ hown (wq hw 253 rfl) (wq hw 254 rfl) (wq hw 255 rfl) rfl (g := (mkF m 46 #[vR ta, vR ts, vR a618] [(.ref t637), (.ref a632), (.ref a632)])) rfl (dq (dg dth 22 rfl)) (by decide) (by decide)
  obtain ⟨a641, g641⟩ : ∃ z, z = T637.heap.size := ⟨_, rfl⟩
  rw [← g641] at A641 D641 st641
  have Ex642 : Ext h0 h641 := Ex638.tr E641
  have Ex644 : Ext h632 h641 := Ex640.tr E641
  have Ex645 : Ext T637.heap h641 := E641
  have le646 : h0.size ≤ a641 := Nat.le_trans Ex638.1 (Nat.le_of_eq g641.symm)
  have le648 : h632.size ≤ a641 := Nat.le_trans Ex640.1 (Nat.le_of_eq g641.symm)
  have le649 : T637.heap.size ≤ a641 := Nat.le_of_eq g641.symm
  refine R0_ st641 ?_
  show Rch p e below T641 (mkF m 49 #[vR ta, vR ts, vR a618] [(.ref a641), (.ref t637), (.ref a632), (.ref a632)]) _
  refine R1 (XS.dup X641.here hx rfl (dq (dg dth 23 rfl)) rfl rfl) ?_
  show Rch p e below T641 (mkF m 50 #[vR ta, vR ts, vR a618] [(.ref a641), (.ref a641), (.ref t637), (.ref a632), (.ref a632)]) _
  obtain ⟨_, _, ⟨T650, L650, k650, n650⟩, -, X650, ⟨Lc650, hQ650, l650, y650, z650⟩, st650⟩ := X641.specialBack hx (y := mN38) rfl hown (mw hZ hw 256 rfl) (mw hZ hw 257 rfl) (mw hZ hw 258 rfl) (by decide) (backOf (W := 4) (rm_sbInit l Z a0 hw [] a641 h641 n0 (Nat.le_trans Z0 Ex642.1) (Nat.le_trans Z0 le646) A641 ((D641 (Or.inl (wq hw 268 rfl)) (ty := (.array .byte)) (by decide)).ext Ext.rf) ((D641 (Or.inl (wq hw 270 rfl)) (ty := .byte) (by decide)).ext Ext.rf) ((D641 (Or.inl (wq hw 292 rfl)) (ty := .int) (by decide)).ext Ext.rf) (CS.ext Ex642)) hZ (wq hw 258 rfl) (wq hw 255 rfl) (by decide) (by decide)) (g := (mkF m 50 #[vR ta, vR ts, vR a618] [(.ref a641), (.ref a641), (.ref t637), (.ref a632), (.ref a632)])) rfl (by rw [hml]; rfl) (Steps.refl _) (a := a641) (argsL := []) (rest := [(.ref a641), (.ref t637), (.ref a632), (.ref a632)]) (lenOf pd_0 rfl) rfl (w0 rfl) (dq (dg dth 24 rfl)) (fun _ _ => ⟨rfl, e641, (by decide : 8 + 1 ≤ _), (by decide : 27 + 16 ≤ _)⟩)
  dsimp only [Pt.U, Pt.locs, Pt.cells, Pt.slots] at X650 l650 y650 z650 st650 hQ650
  subst l650 y650 z650
  obtain ⟨va650, rfl, Nq650, K650, le650_, B650⟩ := hQ650
  have N650 := Fr.app N637 Nq650
  have Ex651 : Ext h0 T650.heap := extKeep Ex642 K650 (allS le646 all0)
  have Ex653 : Ext h632 T650.heap := extKeep Ex644 K650 (allS le648 all0)
  have Ex654 : Ext T637.heap T650.heap := extKeep Ex645 K650 (allS le649 all0)
  refine R2 st650 ?_
  show Rch p e below T650 (mkF m 53 #[vR ta, vR ts, vR a618] [(.ref a641), (.ref t637), (.ref a632), (.ref a632)]) _
  have le655 : h0.size ≤ va650 := Nat.le_trans Ex642.1 le650_
  have le657 : h632.size ≤ va650 := Nat.le_trans Ex644.1 le650_
  have le658 : T637.heap.size ≤ va650 := Nat.le_trans Ex645.1 le650_
  refine R1 (XS.aloadN X650.here hx rfl (dq (dg dth 25 rfl)) rfl rfl) ?_
  show Rch p e below T650 (mkF m 54 #[vR ta, vR ts, vR a618] [(.ref ta), (.ref a641), (.ref t637), (.ref a632), (.ref a632)]) _
  obtain ⟨T660, X660, e660, st660⟩ := getF X650 hx hZ hown (host := "") (Or.inl (wq hw 100 rfl)) Via.refl rfl (HC.ext Ex651).2.2 (g := (mkF m 54 #[vR ta, vR ts, vR a618] [(.ref ta), (.ref a641), (.ref t637), (.ref a632), (.ref a632)])) rfl rfl (dq (dg dth 26 rfl))
  refine R0_ st660 ?_
  show Rch p e below T660 (mkF m 57 #[vR ta, vR ts, vR a618] [(.ref tx), (.ref a641), (.ref t637), (.ref a632), (.ref a632)]) _
  obtain ⟨cq661, kq661, q661a, q661b, q661c⟩ := isOf hZ e660 B650.1
  obtain ⟨_, _, ⟨T661, L661, k661, n661⟩, -, X661, ⟨Lc661, hQ661, l661, y661, z661⟩, st661⟩ := X660.virtualBack hx (y := mN48) (z := mN48) hown (mw hZ hw 271 rfl) (mw hZ hw 272 rfl) (notFace_of_selects (args := #[]) (mw hZ hw 274 rfl)) (mw hZ hw 274 rfl) (mw hZ hw 273 rfl) (by decide) (backOf (W := 3) (rm_sbApp l Z a0 hw [] a641 va650 tx (0) nt T650.heap n0 (Nat.le_trans Z0 Ex651.1) B650 (SX.ext Ex651) (Nat.le_trans Z0 le646) (Nat.le_trans Z0 le655) (by omega) (CS.ext Ex651)) hZ (wq hw 275 rfl) (wq hw 255 rfl) (by decide) (by decide)) q661a q661c (g := (mkF m 57 #[vR ta, vR ts, vR a618] [(.ref tx), (.ref a641), (.ref t637), (.ref a632), (.ref a632)])) rfl (by rw [hml]; rfl) (Steps.refl _) (argsL := [(.ref tx)]) (rest := [(.ref t637), (.ref a632), (.ref a632)]) (lenOf pd_33 rfl) rfl (w0 rfl) (dq (dg dth 27 rfl)) (fun _ _ => ⟨rfl, e660, (by decide : 9 + 0 ≤ _), (by decide : 43 + 0 ≤ _)⟩)
  dsimp only [Pt.U, Pt.locs, Pt.cells, Pt.slots] at X661 l661 y661 z661 st661 hQ661
  subst l661 y661 z661
  obtain ⟨rfl, Nq661, K661, B661⟩ := hQ661
  have N661 := Fr.app N650 Nq661
  have Ex662 : Ext h0 T661.heap := extKeep Ex651 K661 (allS le646 (allS le655 all0))
  have Ex664 : Ext h632 T661.heap := extKeep Ex653 K661 (allS le648 (allS le657 all0))
  have Ex665 : Ext T637.heap T661.heap := extKeep Ex654 K661 (allS le649 (allS le658 all0))
  refine R2 st661 ?_
  show Rch p e below T661 (mkF m 60 #[vR ta, vR ts, vR a618] [(.ref a641), (.ref t637), (.ref a632), (.ref a632)]) _
  refine R1 (XS.bipush X661.here hx rfl (dq (dg dth 28 rfl)) ) ?_
  show Rch p e below T661 (mkF m 62 #[vR ta, vR ts, vR a618] [(.int (32 : Int32)), (.ref a641), (.ref t637), (.ref a632), (.ref a632)]) _
  obtain ⟨cq666, kq666, q666a, q666b, q666c⟩ := isOf hZ rfl B661.1
  obtain ⟨_, _, ⟨T666, L666, k666, n666⟩, -, X666, ⟨Lc666, hQ666, l666, y666, z666⟩, st666⟩ := X661.virtualBack hx (y := mN50) (z := mN50) hown (mw hZ hw 315 rfl) (mw hZ hw 316 rfl) (notFace_of_selects (args := #[]) (mw hZ hw 318 rfl)) (mw hZ hw 318 rfl) (mw hZ hw 317 rfl) (by decide) (backOf (W := 3) (rm_sbAppC l Z a0 hw [] a641 va650 (0 + nt) (32 : Int32) T661.heap n0 (Nat.le_trans Z0 Ex662.1) B661 (Nat.le_trans Z0 le646) (Nat.le_trans Z0 le655) (by omega) (by decide) (CS.ext Ex662)) hZ (wq hw 319 rfl) (wq hw 255 rfl) (by decide) (by decide)) q666a q666c (g := (mkF m 62 #[vR ta, vR ts, vR a618] [(.int (32 : Int32)), (.ref a641), (.ref t637), (.ref a632), (.ref a632)])) rfl (by rw [hml]; rfl) (Steps.refl _) (argsL := [(.int (32 : Int32))]) (rest := [(.ref t637), (.ref a632), (.ref a632)]) (lenOf pd_34 rfl) rfl (w0 rfl) (dq (dg dth 29 rfl)) (fun _ _ => ⟨rfl, rfl, (by decide : 9 + 0 ≤ _), (by decide : 43 + 0 ≤ _)⟩)
  dsimp only [Pt.U, Pt.locs, Pt.cells, Pt.slots] at X666 l666 y666 z666 st666 hQ666
  subst l666 y666 z666
  obtain ⟨rfl, Nq666, K666, B666⟩ := hQ666
  have N666 := Fr.app N661 Nq666
  have Ex667 : Ext h0 T666.heap := extKeep Ex662 K666 (allS le646 (allS le655 all0))
  have Ex669 : Ext h632 T666.heap := extKeep Ex664 K666 (allS le648 (allS le657 all0))
  have Ex670 : Ext T637.heap T666.heap := extKeep Ex665 K666 (allS le649 (allS le658 all0))
  refine R2 st666 ?_
  show Rch p e below T666 (mkF m 65 #[vR ta, vR ts, vR a618] [(.ref a641), (.ref t637), (.ref a632), (.ref a632)]) _
  refine R1 (XS.aloadN X666.here hx rfl (dq (dg dth 30 rfl)) rfl rfl) ?_
  show Rch p e below T666 (mkF m 66 #[vR ta, vR ts, vR a618] [(.ref ts), (.ref a641), (.ref t637), (.ref a632), (.ref a632)]) _
  obtain ⟨cq671, kq671, q671a, q671b, q671c⟩ := isOf hZ rfl B666.1
  obtain ⟨_, _, ⟨T671, L671, k671, n671⟩, -, X671, ⟨Lc671, hQ671, l671, y671, z671⟩, st671⟩ := X666.virtualBack hx (y := mN48) (z := mN48) hown (mw hZ hw 271 rfl) (mw hZ hw 272 rfl) (notFace_of_selects (args := #[]) (mw hZ hw 274 rfl)) (mw hZ hw 274 rfl) (mw hZ hw 273 rfl) (by decide) (backOf (W := 3) (rm_sbApp l Z a0 hw [] a641 va650 ts (0 + nt + 1) ns T666.heap n0 (Nat.le_trans Z0 Ex667.1) B666 (SS.ext Ex667) (Nat.le_trans Z0 le646) (Nat.le_trans Z0 le655) (by omega) (CS.ext Ex667)) hZ (wq hw 275 rfl) (wq hw 255 rfl) (by decide) (by decide)) q671a q671c (g := (mkF m 66 #[vR ta, vR ts, vR a618] [(.ref ts), (.ref a641), (.ref t637), (.ref a632), (.ref a632)])) rfl (by rw [hml]; rfl) (Steps.refl _) (argsL := [(.ref ts)]) (rest := [(.ref t637), (.ref a632), (.ref a632)]) (lenOf pd_33 rfl) rfl (w0 rfl) (dq (dg dth 31 rfl)) (fun _ _ => ⟨rfl, rfl, (by decide : 9 + 0 ≤ _), (by decide : 43 + 0 ≤ _)⟩)
  dsimp only [Pt.U, Pt.locs, Pt.cells, Pt.slots] at X671 l671 y671 z671 st671 hQ671
  subst l671 y671 z671
  obtain ⟨rfl, Nq671, K671, B671⟩ := hQ671
  have N671 := Fr.app N666 Nq671
  have Ex672 : Ext h0 T671.heap := extKeep Ex667 K671 (allS le646 (allS le655 all0))
  have Ex674 : Ext h632 T671.heap := extKeep Ex669 K671 (allS le648 (allS le657 all0))
  have Ex675 : Ext T637.heap T671.heap := extKeep Ex670 K671 (allS le649 (allS le658 all0))
  refine R2 st671 ?_
  show Rch p e below T671 (mkF m 69 #[vR ta, vR ts, vR a618] [(.ref a641), (.ref t637), (.ref a632), (.ref a632)]) _
  obtain ⟨cq676, kq676, q676a, q676b, q676c⟩ := isOf hZ rfl B671.1
  obtain ⟨_, _, ⟨T676, L676, k676, n676⟩, -, X676, ⟨Lc676, hQ676, l676, y676, z676⟩, st676⟩ := X671.virtualBack hx (y := mN56) (z := mN56) hown (mw hZ hw 330 rfl) (mw hZ hw 331 rfl) (notFace_of_selects (args := #[]) (mw hZ hw 333 rfl)) (mw hZ hw 333 rfl) (mw hZ hw 332 rfl) (by decide) (backOf (W := 3) (rm_sbStr l Z a0 hw [] a641 va650 (0 + nt + 1 + ns) T671.heap n0 (Nat.le_trans Z0 Ex672.1) B671 (by omega) (CS.ext Ex672)) hZ (wq hw 334 rfl) (wq hw 255 rfl) (by decide) (by decide)) q676a q676c (g := (mkF m 69 #[vR ta, vR ts, vR a618] [(.ref a641), (.ref t637), (.ref a632), (.ref a632)])) rfl (by rw [hml]; rfl) (Steps.refl _) (argsL := []) (rest := [(.ref t637), (.ref a632), (.ref a632)]) (lenOf pd_35 rfl) rfl (w0 rfl) (dq (dg dth 32 rfl)) (fun _ _ => ⟨rfl, rfl, (by decide : 9 + 2 ≤ _), (by decide : 43 + 20 ≤ _)⟩)
  dsimp only [Pt.U, Pt.locs, Pt.cells, Pt.slots] at X676 l676 y676 z676 st676 hQ676
  subst l676 y676 z676
  obtain ⟨t676, rfl, Nq676, E676, le676_, EX676⟩ := hQ676
  have N676 := Fr.app N671 Nq676
  have Ex677 : Ext h0 T676.heap := Ex672.tr E676
  have Ex679 : Ext h632 T676.heap := Ex674.tr E676
  have Ex680 : Ext T637.heap T676.heap := Ex675.tr E676
  refine R2 st676 ?_
  show Rch p e below T676 (mkF m 72 #[vR ta, vR ts, vR a618] [(.ref t676), (.ref t637), (.ref a632), (.ref a632)]) _
  obtain ⟨_, _, ⟨T682, L682, k682, n682⟩, -, X682, ⟨Lc682, hQ682, l682, y682, z682⟩, st682⟩ := X676.specialBack hx (y := mN58) rfl hown (mw hZ hw 365 rfl) (mw hZ hw 90 rfl) (mw hZ hw 91 rfl) (by decide) (backOf (W := 1) (rm_chI l Z a0 hw [] a632 t637 t676 T676.heap n0 (Nat.le_trans Z0 Ex677.1) (Nat.le_trans Z0 le635) (A632.ext Ex679) ((D632 (Or.inr (wq hw 99 rfl)) (ty := (.object "java/util/List")) (by decide)).ext Ex679) ((D632 (Or.inr (wq hw 101 rfl)) (ty := (.object "java/lang/String")) (by decide)).ext Ex679)) hZ (wq hw 91 rfl) (wq hw 88 rfl) (by decide) (by decide)) (g := (mkF m 72 #[vR ta, vR ts, vR a618] [(.ref t676), (.ref t637), (.ref a632), (.ref a632)])) rfl (by rw [hml]; rfl) (Steps.refl _) (a := a632) (argsL := [(.ref t637), (.ref t676)]) (rest := [(.ref a632)]) (lenOf pd_36 rfl) rfl (w0 rfl) (dq (dg dth 33 rfl)) (fun _ _ => ⟨rfl, rfl, (by decide : 11 + 0 ≤ _), (by decide : 63 + 0 ≤ _)⟩)
  dsimp only [Pt.U, Pt.locs, Pt.cells, Pt.slots] at X682 l682 y682 z682 st682 hQ682
  subst l682 y682 z682
  obtain ⟨rfl, Nq682, K682, G682⟩ := hQ682
  have N682 := Fr.app N676 Nq682
  have Ex683 : Ext h0 T682.heap := extKeep Ex677 K682 (allS le635 all0)
  refine R2 st682 ?_
  show Rch p e below T682 (mkF m 75 #[vR ta, vR ts, vR a618] [(.ref a632)]) _
  have R9 := (R637.ext Ex680).keepC K682 (A632.ext Ex679)
  exact Rch.fin (Q := Q_th3 Z ta tl tx ts ea mr y0 y1 y2 nt ns h0 n0) X682 (v := some (.ref a632)) (fun h => by rw [Bd.returns] at h; cases h) (BodyLoose.notSynchronized Bd) (fun fs hr => retR X682 hx Bd.returns rfl rfl (dq (dg dth 34 rfl)) hr) ⟨a632, t637, t676, rfl, N682, Ex683, G682, R9⟩ (by decide) (by decide)
def Q_of3 (Z : State) (ta tl tx ts ea mr y0 y1 y2 : Addr) (nt ns : Nat) (h0 : Heap) (n0 : Nat) (v : Option Value) (h : Heap) (L : List Loc) : Prop := ∃ r t u, v = some (.ref r) ∧ Fr n0 L ∧ Ext h0 h ∧ Chn Z h r t u ∧ LNp Z h t (4 : Int32) [(.ref ts), (.ref y0), (.ref y1), (.ref y2)]
set_option maxRecDepth 65536 in
set_option maxHeartbeats 40000000 in
theorem rm_of3 (l : Launch) (Z : State) (a0 : Array Value) (hw : ∀ d ∈ tables_1, d.before a0 Z = true) (ws : List Jvm.Cond) (ta tl tx ts ea mr y0 y1 y2 : Addr) (nt ns : Nat) (h0 : Heap) (n0 : Nat) (Z0 : n0 ≤ h0.size) (HC : Chn Z h0 ta tl tx) (A : Al Z h0 tl ea 10 (3 : Int32) [(.ref y0), (.ref y1), (.ref y2)]) (MR : Mi Z "[Ljava/lang/Object;" mr) (SX : Sl Z h0 tx nt) (SS : Sl Z h0 ts ns) (hnt : nt ≤ 2) (hns : ns ≤ 2) (CS : Cmp Z h0) (EX0 : Exa Z h0 y0 "java/lang/String") (EX1 : Exa Z h0 y1 "java/lang/String") (EX2 : Exa Z h0 y2 "java/lang/String") :
    MetFree l mN72 (head1 (Jvm.Cond.code mN72 prog_12_method_2_code 4 (some (.object "com/example/ampersat/ampersat/index/MetaChains$Chain")) :: ws) rO45) (fun a U => a = #[(.ref ts), (.ref ta)] ∧ Z.Warmed39 U.vm ∧ U.heap = h0) (fun _ _ _ _ _ => True) (fun _ U o U' => ∃ v L, o = .returned v ∧ Q_of3 Z ta tl tx ts ea mr y0 y1 y2 nt ns h0 n0 v U'.heap L ∧ FrameEnd U o U' L rO45.cells rO45.slots) := by
  refine MetFree.of_bodySF pn_of1 hisR ?_
  intro p e s m args below meth c s₁ Bd hml0 hP hK
  obtain ⟨rfl, hZ, hh⟩ := hP
  have hx := Bd.exec
  have hby := Bd.bytes
  have dq := @hb _ _ hby
  have hml : c.maxLocals = 4 := hml0
  have hown : s.vm.findClass "com/example/ampersat/ampersat/index/MetaChains$Chain" = some m.cls := findClass_of_methodNamed Bd.named
  have X0 : Stand p l e rO45 s m #[(.ref ts), (.ref ta)] below meth c s₁ [] 0 0 := Stand.of_body Bd
  have e0 : s₁.heap = h0 := by rw [← hh, Bd.state]; rfl
  have N0 := Fr.nil n0
  show Rch p e below s₁ (entryFrame m #[(.ref ts), (.ref ta)] 4) (fun U o => ∃ v L, o = .returned v ∧ Q_of3 Z ta tl tx ts ea mr y0 y1 y2 nt ns h0 n0 v U.heap L ∧ FrameEnd s o U L rO45.cells rO45.slots)
  refine Rch.cast (ef_of1 m ts ta) ?_
  show Rch p e below s₁ (mkF m 0 #[vR ts, vR ta, .unset, .unset] []) _
  refine R1 (XS.aloadN X0.here hx rfl (dq (dg dof 0 rfl)) rfl rfl) ?_
  refine R1 (XT.ifnonnullYes X0.here hx rfl (pc0 := 1) (pc' := 20) rfl (dq (dg dof 1 rfl)) rfl (by decide) (by decide)) ?_
  show Rch p e below s₁ (mkF m 20 #[vR ts, vR ta, .unset, .unset] []) _
  obtain ⟨T685, h685, X685, e685, E685, A685, D685, -, st685⟩ := newO X0 hx hZ hown (wq hw 148 rfl) (wq hw 32 rfl) (wq hw 33 rfl) e0 (g := (mkF m 20 #[vR ts, vR ta, .unset, .unset] [])) rfl (dq (dg dof 2 rfl)) (by decide) (by decide)
  obtain ⟨a685, g685⟩ : ∃ z, z = h0.size := ⟨_, rfl⟩
  rw [← g685] at A685 D685 st685
  have Ex686 : Ext h0 h685 := E685
  have le687 : h0.size ≤ a685 := Nat.le_of_eq g685.symm
  refine R0_ st685 ?_
  show Rch p e below T685 (mkF m 23 #[vR ts, vR ta, .unset, .unset] [(.ref a685)]) _
  refine R1 (XS.dup X685.here hx rfl (dq (dg dof 3 rfl)) rfl rfl) ?_
  refine R1 (XS.aloadN X685.here hx rfl (dq (dg dof 4 rfl)) rfl rfl) ?_
  show Rch p e below T685 (mkF m 25 #[vR ts, vR ta, .unset, .unset] [(.ref ta), (.ref a685), (.ref a685)]) _
  obtain ⟨cq688, kq688, q688a, q688b, q688c⟩ := isOf hZ e685 (HC.ext Ex686).1
  obtain ⟨_, _, ⟨T688, L688, k688, n688⟩, -, X688, ⟨Lc688, hQ688, l688, y688, z688⟩, st688⟩ := X685.virtualBack hx (y := mN59) (z := mN59) hown (mw hZ hw 381 rfl) (mw hZ hw 382 rfl) (notFace_of_selects (args := #[]) (mw hZ hw 384 rfl)) (mw hZ hw 384 rfl) (mw hZ hw 383 rfl) (by decide) (backOf (W := 2) (rm_typ l Z a0 hw [] ta tl tx h685 n0 (Nat.le_trans Z0 Ex686.1) (HC.ext Ex686)) hZ (wq hw 385 rfl) (wq hw 88 rfl) (by decide) (by decide)) q688a q688c (g := (mkF m 25 #[vR ts, vR ta, .unset, .unset] [(.ref ta), (.ref a685), (.ref a685)])) rfl (by rw [hml]; rfl) (Steps.refl _) (argsL := []) (rest := [(.ref a685), (.ref a685)]) (lenOf pd_37 rfl) rfl (w0 rfl) (dq (dg dof 5 rfl)) (fun _ _ => ⟨rfl, e685, (by decide : 1 + 0 ≤ _), (by decide : 3 + 0 ≤ _)⟩)
  dsimp only [Pt.U, Pt.locs, Pt.cells, Pt.slots] at X688 l688 y688 z688 st688 hQ688
  subst l688 y688 z688
  obtain ⟨rfl, Nq688, e688⟩ := hQ688
  have N688 := Fr.app N0 Nq688
  refine R2 st688 ?_
  show Rch p e below T688 (mkF m 28 #[vR ts, vR ta, .unset, .unset] [(.ref tl), (.ref a685), (.ref a685)]) _
  obtain ⟨cq689, kq689, q689a, q689b, q689c⟩ := isOf hZ e688 (A.ext Ex686).1
  obtain ⟨_, _, ⟨T689, L689, k689, n689⟩, -, X689, ⟨Lc689, hQ689, l689, y689, z689⟩, st689⟩ := X688.interfaceBack hx (xi := mN66) (y := mN8) hown (mw hZ hw 107 rfl) (mw hZ hw 108 rfl) (mw hZ hw 109 rfl) (mw hZ hw 110 rfl) (mw hZ hw 111 rfl) (mw hZ hw 112 rfl) (mw hZ hw 113 rfl) (mw hZ hw 114 rfl) (by decide) (backOf (W := 2) (rm_alSize l Z a0 hw [] tl ea 10 (3 : Int32) [(.ref y0), (.ref y1), (.ref y2)] h685 n0 (Nat.le_trans Z0 Ex686.1) (A.ext Ex686)) hZ (wq hw 115 rfl) (wq hw 33 rfl) (by decide) (by decide)) q689a q689b q689c (g := (mkF m 28 #[vR ts, vR ta, .unset, .unset] [(.ref tl), (.ref a685), (.ref a685)])) rfl (by rw [hml]; rfl) (Steps.refl _) (argsL := []) (rest := [(.ref a685), (.ref a685)]) (lenOf pd_20 rfl) rfl (w0 rfl) (dq (dg dof 6 rfl)) (fun _ _ => ⟨rfl, e688, (by decide : 1 + 0 ≤ _), (by decide : 3 + 0 ≤ _)⟩)
  dsimp only [Pt.U, Pt.locs, Pt.cells, Pt.slots] at X689 l689 y689 z689 st689 hQ689
  subst l689 y689 z689
  obtain ⟨rfl, Nq689, e689⟩ := hQ689
  have N689 := Fr.app N688 Nq689
  refine R2 st689 ?_
  show Rch p e below T689 (mkF m 33 #[vR ts, vR ta, .unset, .unset] [(.int (3 : Int32)), (.ref a685), (.ref a685)]) _
  refine R1 (XS.iconst X689.here hx rfl (dq (dg dof 7 rfl)) ) ?_
  refine R1 (XS.iadd X689.here hx rfl (dq (dg dof 8 rfl)) rfl) ?_
  show Rch p e below T689 (mkF m 35 #[vR ts, vR ta, .unset, .unset] [(.int ((3 : Int32) + (1 : Int32))), (.ref a685), (.ref a685)]) _
  rw [show ((3 : Int32) + (1 : Int32)) = (4 : Int32) from by decide]
  show Rch p e below T689 (mkF m 35 #[vR ts, vR ta, .unset, .unset] [(.int (4 : Int32)), (.ref a685), (.ref a685)]) _
  obtain ⟨_, _, ⟨T690, L690, k690, n690⟩, -, X690, ⟨Lc690, hQ690, l690, y690, z690⟩, st690⟩ := X689.specialBack hx (y := mN18) rfl hown (mw hZ hw 149 rfl) (mw hZ hw 150 rfl) (mw hZ hw 151 rfl) (by decide) (backOf (W := 1) (rm_alInitN l Z a0 hw [] a685 (4 : Int32) .null h685 n0 (Nat.le_trans Z0 Ex686.1) (Nat.le_trans Z0 le687) A685 ((D685 (Or.inl (wq hw 54 rfl)) (ty := (.array (.object "java/lang/Object"))) (by decide)).ext Ext.rf) ((D685 (Or.inl (wq hw 63 rfl)) (ty := .int) (by decide)).ext Ext.rf) ((D685 (Or.inl (wq hw 51 rfl)) (ty := .int) (by decide)).ext Ext.rf) (by decide) (by decide) (by decide)) hZ (wq hw 151 rfl) (wq hw 33 rfl) (by decide) (by decide)) (g := (mkF m 35 #[vR ts, vR ta, .unset, .unset] [(.int (4 : Int32)), (.ref a685), (.ref a685)])) rfl (by rw [hml]; rfl) (Steps.refl _) (a := a685) (argsL := [(.int (4 : Int32))]) (rest := [(.ref a685)]) (lenOf pd_19 rfl) rfl (w0 rfl) (dq (dg dof 9 rfl)) (fun _ _ => ⟨rfl, e689, (by decide : 1 + 1 ≤ _), (by decide : 3 + 4 ≤ _)⟩)
  dsimp only [Pt.U, Pt.locs, Pt.cells, Pt.slots] at X690 l690 y690 z690 st690 hQ690
  subst l690 y690 z690
  obtain ⟨ea690, rfl, Nq690, K690, le690_, A690⟩ := hQ690
  have N690 := Fr.app N689 Nq690
  have Ex691 : Ext h0 T690.heap := extKeep Ex686 K690 (allS le687 all0)
  refine R2 st690 ?_
  show Rch p e below T690 (mkF m 38 #[vR ts, vR ta, .unset, .unset] [(.ref a685)]) _
  have le692 : h0.size ≤ ea690 := Nat.le_trans Ex686.1 le690_
  refine R1 (XS.astoreN X690.here hx rfl (dq (dg dof 10 rfl)) rfl rfl (l' := #[vR ts, vR ta, .unset, vR a685]) rfl) ?_
  refine R1 (XS.aloadN X690.here hx rfl (dq (dg dof 11 rfl)) rfl rfl) ?_
  refine R1 (XS.aloadN X690.here hx rfl (dq (dg dof 12 rfl)) rfl rfl) ?_
  show Rch p e below T690 (mkF m 41 #[vR ts, vR ta, .unset, vR a685] [(.ref ts), (.ref a685)]) _
  obtain ⟨cq694, kq694, q694a, q694b, q694c⟩ := isOf hZ rfl A690.1
  obtain ⟨_, _, ⟨T694, L694, k694, n694⟩, -, X694, ⟨Lc694, hQ694, l694, y694, z694⟩, st694⟩ := X690.interfaceBack hx (xi := mN71) (y := mN7) hown (mw hZ hw 192 rfl) (mw hZ hw 193 rfl) (mw hZ hw 194 rfl) (mw hZ hw 195 rfl) (mw hZ hw 57 rfl) (mw hZ hw 196 rfl) (mw hZ hw 197 rfl) (mw hZ hw 114 rfl) (by decide) (backOf (W := 0) (rm_addR l Z a0 hw [] a685 ts ea690 (4 : Int32) (0 : Int32) [] T690.heap n0 (Nat.le_trans Z0 Ex691.1) (Nat.le_trans Z0 le687) (Nat.le_trans Z0 le692) A690 (SS.ext Ex691).exa (by decide) ⟨by decide, by decide⟩ rfl) hZ (wq hw 59 rfl) (wq hw 33 rfl) (by decide) (by decide)) q694a q694b q694c (g := (mkF m 41 #[vR ts, vR ta, .unset, vR a685] [(.ref ts), (.ref a685)])) rfl (by rw [hml]; rfl) (Steps.refl _) (argsL := [(.ref ts)]) (rest := []) (lenOf pd_32 rfl) rfl (w0 rfl) (dq (dg dof 13 rfl)) (fun _ _ => ⟨rfl, rfl, (by decide : 2 + 0 ≤ _), (by decide : 7 + 0 ≤ _)⟩)
  dsimp only [Pt.U, Pt.locs, Pt.cells, Pt.slots] at X694 l694 y694 z694 st694 hQ694
  subst l694 y694 z694
  obtain ⟨rfl, Nq694, K694, A694⟩ := hQ694
  have N694 := Fr.app N690 Nq694
  have Ex695 : Ext h0 T694.heap := extKeep Ex691 K694 (allS le687 (allS le692 all0))
  refine R2 st694 ?_
  show Rch p e below T694 (mkF m 46 #[vR ts, vR ta, .unset, vR a685] [(.int (1 : Int32))]) _
  have AL694 : Al Z T694.heap a685 ea690 (4 : Int32) (1 : Int32) [(.ref ts)] := by have q := A694; rw [show (0 : Int32) + (1 : Int32) = (1 : Int32) from by decide] at q; exact q
  refine R1 (XT.pop X694.here hx rfl (dq (dg dof 14 rfl)) rfl rfl) ?_
  refine R1 (XS.aloadN X694.here hx rfl (dq (dg dof 15 rfl)) rfl rfl) ?_
  refine R1 (XS.aloadN X694.here hx rfl (dq (dg dof 16 rfl)) rfl rfl) ?_
  show Rch p e below T694 (mkF m 49 #[vR ts, vR ta, .unset, vR a685] [(.ref ta), (.ref a685)]) _
  obtain ⟨cq696, kq696, q696a, q696b, q696c⟩ := isOf hZ rfl (HC.ext Ex695).1
  obtain ⟨_, _, ⟨T696, L696, k696, n696⟩, -, X696, ⟨Lc696, hQ696, l696, y696, z696⟩, st696⟩ := X694.virtualBack hx (y := mN59) (z := mN59) hown (mw hZ hw 381 rfl) (mw hZ hw 382 rfl) (notFace_of_selects (args := #[]) (mw hZ hw 384 rfl)) (mw hZ hw 384 rfl) (mw hZ hw 383 rfl) (by decide) (backOf (W := 1) (rm_typ l Z a0 hw [] ta tl tx T694.heap n0 (Nat.le_trans Z0 Ex695.1) (HC.ext Ex695)) hZ (wq hw 385 rfl) (wq hw 88 rfl) (by decide) (by decide)) q696a q696c (g := (mkF m 49 #[vR ts, vR ta, .unset, vR a685] [(.ref ta), (.ref a685)])) rfl (by rw [hml]; rfl) (Steps.refl _) (argsL := []) (rest := [(.ref a685)]) (lenOf pd_37 rfl) rfl (w0 rfl) (dq (dg dof 17 rfl)) (fun _ _ => ⟨rfl, rfl, (by decide : 2 + 0 ≤ _), (by decide : 7 + 0 ≤ _)⟩)
  dsimp only [Pt.U, Pt.locs, Pt.cells, Pt.slots] at X696 l696 y696 z696 st696 hQ696
  subst l696 y696 z696
  obtain ⟨rfl, Nq696, e696⟩ := hQ696
  have N696 := Fr.app N694 Nq696
  refine R2 st696 ?_
  show Rch p e below T696 (mkF m 52 #[vR ts, vR ta, .unset, vR a685] [(.ref tl), (.ref a685)]) _
  obtain ⟨cq697, kq697, q697a, q697b, q697c⟩ := isOf hZ e696 AL694.1
  obtain ⟨_, _, ⟨T697, L697, k697, n697⟩, -, X697, ⟨Lc697, hQ697, l697, y697, z697⟩, st697⟩ := X696.interfaceBack hx (xi := mN70) (y := mN19) hown (mw hZ hw 152 rfl) (mw hZ hw 153 rfl) (mw hZ hw 154 rfl) (mw hZ hw 155 rfl) (mw hZ hw 156 rfl) (mw hZ hw 157 rfl) (mw hZ hw 158 rfl) (mw hZ hw 114 rfl) (by decide) (backOf (W := 0) (rm_addAll l Z a0 hw [] a685 ea690 tl ea mr (4 : Int32) (1 : Int32) 10 (3 : Int32) [(.ref ts)] [(.ref y0), (.ref y1), (.ref y2)] [(.ref y0), (.ref y1), (.ref y2)] T694.heap n0 (Nat.le_trans Z0 Ex695.1) (Nat.le_trans Z0 le687) (Nat.le_trans Z0 le692) AL694 (A.ext Ex695) MR (by decide) (by decide) (by decide) rfl (fun v hv => by simp only [List.mem_cons, List.not_mem_nil, or_false] at hv; rcases hv with rfl | rfl | rfl <;> first | exact ⟨_, rfl, (EX0.ext Ex695)⟩ | exact ⟨_, rfl, (EX1.ext Ex695)⟩ | exact ⟨_, rfl, (EX2.ext Ex695)⟩) (by decide) (by decide) (by decide) rfl (Nat.le_of_ble_eq_true rfl)) hZ (wq hw 159 rfl) (wq hw 33 rfl) (by decide) (by decide)) q697a q697b q697c (g := (mkF m 52 #[vR ts, vR ta, .unset, vR a685] [(.ref tl), (.ref a685)])) rfl (by rw [hml]; rfl) (Steps.refl _) (argsL := [(.ref tl)]) (rest := []) (lenOf pd_31 rfl) rfl (w0 rfl) (dq (dg dof 18 rfl)) (fun _ _ => ⟨rfl, e696, (by decide : 2 + 1 ≤ _), (by decide : 7 + 4 ≤ _)⟩)
  dsimp only [Pt.U, Pt.locs, Pt.cells, Pt.slots] at X697 l697 y697 z697 st697 hQ697
  subst l697 y697 z697
  obtain ⟨rfl, Nq697, K697, A697⟩ := hQ697
  have N697 := Fr.app N696 Nq697
  have Ex698 : Ext h0 T697.heap := extKeep Ex695 K697 (allS le687 (allS le692 all0))
  refine R2 st697 ?_
  show Rch p e below T697 (mkF m 57 #[vR ts, vR ta, .unset, vR a685] [(.int (1 : Int32))]) _
  have AL697 : Al Z T697.heap a685 ea690 (4 : Int32) (4 : Int32) [(.ref ts), (.ref y0), (.ref y1), (.ref y2)] := by have q := A697; rw [show (1 : Int32) + (3 : Int32) = (4 : Int32) from by decide] at q; exact q
  refine R1 (XT.pop X697.here hx rfl (dq (dg dof 19 rfl)) rfl rfl) ?_
  show Rch p e below T697 (mkF m 58 #[vR ts, vR ta, .unset, vR a685] []) _
  obtain ⟨T699, h699, X699, e699, E699, A699, D699, -, st699⟩ := newO X697 hx hZ hown (wq hw 198 rfl) (wq hw 87 rfl) (wq hw 88 rfl) rfl (g := (mkF m 58 #[vR ts, vR ta, .unset, vR a685] [])) rfl (dq (dg dof 20 rfl)) (by decide) (by decide)
  obtain ⟨a699, g699⟩ : ∃ z, z = T697.heap.size := ⟨_, rfl⟩
  rw [← g699] at A699 D699 st699
  have Ex700 : Ext h0 h699 := Ex698.tr E699
  have Ex701 : Ext T697.heap h699 := E699
  have le702 : h0.size ≤ a699 := Nat.le_trans Ex698.1 (Nat.le_of_eq g699.symm)
  refine R0_ st699 ?_
  show Rch p e below T699 (mkF m 61 #[vR ts, vR ta, .unset, vR a685] [(.ref a699)]) _
  refine R1 (XS.dup X699.here hx rfl (dq (dg dof 21 rfl)) rfl rfl) ?_
  refine R1 (XS.aloadN X699.here hx rfl (dq (dg dof 22 rfl)) rfl rfl) ?_
  show Rch p e below T699 (mkF m 63 #[vR ts, vR ta, .unset, vR a685] [(.ref a685), (.ref a699), (.ref a699)]) _
  obtain ⟨_, _, ⟨T704, L704, k704, n704⟩, -, X704, ⟨Lc704, hQ704, l704, y704, z704⟩, st704⟩ := Jvm.LawKit.callS X699 hx (y := mN29) hown (mw hZ hw 199 rfl) (mw hZ hw 200 rfl) (mw hZ hw 201 rfl) (mw hZ hw 202 rfl) (by decide) (backOf (W := 2) (rm_cpo4 l Z a0 hw [] a685 ea690 mr ts y0 y1 y2 h699 n0 (Nat.le_trans Z0 Ex700.1) (AL697.ext Ex701) MR (SS.ext Ex700).exa (EX0.ext Ex700) (EX1.ext Ex700) (EX2.ext Ex700)) hZ (wq hw 202 rfl) (wq hw 201 rfl) (by decide) (by decide)) (g := (mkF m 63 #[vR ts, vR ta, .unset, vR a685] [(.ref a685), (.ref a699), (.ref a699)])) rfl (by rw [hml]; rfl) (argsL := [(.ref a685)]) (rest := [(.ref a699), (.ref a699)]) (lenOf pd_13 rfl) rfl (w0 rfl) (dq (dg dof 23 rfl)) (fun _ _ => ⟨rfl, e699, (by decide : 4 + 3 ≤ _), (by decide : 13 + 10 ≤ _)⟩)
  dsimp only [Pt.U, Pt.locs, Pt.cells, Pt.slots] at X704 l704 y704 z704 st704 hQ704
  subst l704 y704 z704
  obtain ⟨t704, rfl, Nq704, E704, le704_, R704⟩ := hQ704
  have N704 := Fr.app N697 Nq704
  have Ex705 : Ext h0 T704.heap := Ex700.tr E704
  have Ex707 : Ext h699 T704.heap := E704
  refine R0_ st704 ?_
  show Rch p e below T704 (mkF m 66 #[vR ts, vR ta, .unset, vR a685] [(.ref t704), (.ref a699), (.ref a699)]) _
  obtain ⟨T708, h708, X708, e708, E708, A708, D708, -, st708⟩ := newO X704 hx hZ hown (wq hw 253 rfl) (wq hw 254 rfl) (wq hw 255 rfl) rfl (g := (mkF m 66 #[vR ts, vR ta, .unset, vR a685] [(.ref t704), (.ref a699), (.ref a699)])) rfl (dq (dg dof 24 rfl)) (by decide) (by decide)
  obtain ⟨a708, g708⟩ : ∃ z, z = T704.heap.size := ⟨_, rfl⟩
  rw [← g708] at A708 D708 st708
  have Ex709 : Ext h0 h708 := Ex705.tr E708
  have Ex711 : Ext h699 h708 := Ex707.tr E708
  have Ex712 : Ext T704.heap h708 := E708
  have le713 : h0.size ≤ a708 := Nat.le_trans Ex705.1 (Nat.le_of_eq g708.symm)
  have le715 : h699.size ≤ a708 := Nat.le_trans Ex707.1 (Nat.le_of_eq g708.symm)
  have le716 : T704.heap.size ≤ a708 := Nat.le_of_eq g708.symm
  refine R0_ st708 ?_
  show Rch p e below T708 (mkF m 69 #[vR ts, vR ta, .unset, vR a685] [(.ref a708), (.ref t704), (.ref a699), (.ref a699)]) _
  refine R1 (XS.dup X708.here hx rfl (dq (dg dof 25 rfl)) rfl rfl) ?_
  show Rch p e below T708 (mkF m 70 #[vR ts, vR ta, .unset, vR a685] [(.ref a708), (.ref a708), (.ref t704), (.ref a699), (.ref a699)]) _
  obtain ⟨_, _, ⟨T717, L717, k717, n717⟩, -, X717, ⟨Lc717, hQ717, l717, y717, z717⟩, st717⟩ := X708.specialBack hx (y := mN38) rfl hown (mw hZ hw 256 rfl) (mw hZ hw 257 rfl) (mw hZ hw 258 rfl) (by decide) (backOf (W := 4) (rm_sbInit l Z a0 hw [] a708 h708 n0 (Nat.le_trans Z0 Ex709.1) (Nat.le_trans Z0 le713) A708 ((D708 (Or.inl (wq hw 268 rfl)) (ty := (.array .byte)) (by decide)).ext Ext.rf) ((D708 (Or.inl (wq hw 270 rfl)) (ty := .byte) (by decide)).ext Ext.rf) ((D708 (Or.inl (wq hw 292 rfl)) (ty := .int) (by decide)).ext Ext.rf) (CS.ext Ex709)) hZ (wq hw 258 rfl) (wq hw 255 rfl) (by decide) (by decide)) (g := (mkF m 70 #[vR ts, vR ta, .unset, vR a685] [(.ref a708), (.ref a708), (.ref t704), (.ref a699), (.ref a699)])) rfl (by rw [hml]; rfl) (Steps.refl _) (a := a708) (argsL := []) (rest := [(.ref a708), (.ref t704), (.ref a699), (.ref a699)]) (lenOf pd_0 rfl) rfl (w0 rfl) (dq (dg dof 26 rfl)) (fun _ _ => ⟨rfl, e708, (by decide : 8 + 1 ≤ _), (by decide : 27 + 16 ≤ _)⟩)
  dsimp only [Pt.U, Pt.locs, Pt.cells, Pt.slots] at X717 l717 y717 z717 st717 hQ717
  subst l717 y717 z717
  obtain ⟨va717, rfl, Nq717, K717, le717_, B717⟩ := hQ717
  have N717 := Fr.app N704 Nq717
  have Ex718 : Ext h0 T717.heap := extKeep Ex709 K717 (allS le713 all0)
  have Ex720 : Ext h699 T717.heap := extKeep Ex711 K717 (allS le715 all0)
  have Ex721 : Ext T704.heap T717.heap := extKeep Ex712 K717 (allS le716 all0)
  refine R2 st717 ?_
  show Rch p e below T717 (mkF m 73 #[vR ts, vR ta, .unset, vR a685] [(.ref a708), (.ref t704), (.ref a699), (.ref a699)]) _
  have le722 : h0.size ≤ va717 := Nat.le_trans Ex709.1 le717_
  have le724 : h699.size ≤ va717 := Nat.le_trans Ex711.1 le717_
  have le725 : T704.heap.size ≤ va717 := Nat.le_trans Ex712.1 le717_
  refine R1 (XS.aloadN X717.here hx rfl (dq (dg dof 27 rfl)) rfl rfl) ?_
  show Rch p e below T717 (mkF m 74 #[vR ts, vR ta, .unset, vR a685] [(.ref ts), (.ref a708), (.ref t704), (.ref a699), (.ref a699)]) _
  obtain ⟨cq727, kq727, q727a, q727b, q727c⟩ := isOf hZ rfl B717.1
  obtain ⟨_, _, ⟨T727, L727, k727, n727⟩, -, X727, ⟨Lc727, hQ727, l727, y727, z727⟩, st727⟩ := X717.virtualBack hx (y := mN48) (z := mN48) hown (mw hZ hw 271 rfl) (mw hZ hw 272 rfl) (notFace_of_selects (args := #[]) (mw hZ hw 274 rfl)) (mw hZ hw 274 rfl) (mw hZ hw 273 rfl) (by decide) (backOf (W := 3) (rm_sbApp l Z a0 hw [] a708 va717 ts (0) ns T717.heap n0 (Nat.le_trans Z0 Ex718.1) B717 (SS.ext Ex718) (Nat.le_trans Z0 le713) (Nat.le_trans Z0 le722) (by omega) (CS.ext Ex718)) hZ (wq hw 275 rfl) (wq hw 255 rfl) (by decide) (by decide)) q727a q727c (g := (mkF m 74 #[vR ts, vR ta, .unset, vR a685] [(.ref ts), (.ref a708), (.ref t704), (.ref a699), (.ref a699)])) rfl (by rw [hml]; rfl) (Steps.refl _) (argsL := [(.ref ts)]) (rest := [(.ref t704), (.ref a699), (.ref a699)]) (lenOf pd_33 rfl) rfl (w0 rfl) (dq (dg dof 28 rfl)) (fun _ _ => ⟨rfl, rfl, (by decide : 9 + 0 ≤ _), (by decide : 43 + 0 ≤ _)⟩)
  dsimp only [Pt.U, Pt.locs, Pt.cells, Pt.slots] at X727 l727 y727 z727 st727 hQ727
  subst l727 y727 z727
  obtain ⟨rfl, Nq727, K727, B727⟩ := hQ727
  have N727 := Fr.app N717 Nq727
  have Ex728 : Ext h0 T727.heap := extKeep Ex718 K727 (allS le713 (allS le722 all0))
  have Ex730 : Ext h699 T727.heap := extKeep Ex720 K727 (allS le715 (allS le724 all0))
  have Ex731 : Ext T704.heap T727.heap := extKeep Ex721 K727 (allS le716 (allS le725 all0))
  refine R2 st727 ?_
  show Rch p e below T727 (mkF m 77 #[vR ts, vR ta, .unset, vR a685] [(.ref a708), (.ref t704), (.ref a699), (.ref a699)]) _
  refine R1 (XS.bipush X727.here hx rfl (dq (dg dof 29 rfl)) ) ?_
  show Rch p e below T727 (mkF m 79 #[vR ts, vR ta, .unset, vR a685] [(.int (32 : Int32)), (.ref a708), (.ref t704), (.ref a699), (.ref a699)]) _
  obtain ⟨cq732, kq732, q732a, q732b, q732c⟩ := isOf hZ rfl B727.1
  obtain ⟨_, _, ⟨T732, L732, k732, n732⟩, -, X732, ⟨Lc732, hQ732, l732, y732, z732⟩, st732⟩ := X727.virtualBack hx (y := mN50) (z := mN50) hown (mw hZ hw 315 rfl) (mw hZ hw 316 rfl) (notFace_of_selects (args := #[]) (mw hZ hw 318 rfl)) (mw hZ hw 318 rfl) (mw hZ hw 317 rfl) (by decide) (backOf (W := 3) (rm_sbAppC l Z a0 hw [] a708 va717 (0 + ns) (32 : Int32) T727.heap n0 (Nat.le_trans Z0 Ex728.1) B727 (Nat.le_trans Z0 le713) (Nat.le_trans Z0 le722) (by omega) (by decide) (CS.ext Ex728)) hZ (wq hw 319 rfl) (wq hw 255 rfl) (by decide) (by decide)) q732a q732c (g := (mkF m 79 #[vR ts, vR ta, .unset, vR a685] [(.int (32 : Int32)), (.ref a708), (.ref t704), (.ref a699), (.ref a699)])) rfl (by rw [hml]; rfl) (Steps.refl _) (argsL := [(.int (32 : Int32))]) (rest := [(.ref t704), (.ref a699), (.ref a699)]) (lenOf pd_34 rfl) rfl (w0 rfl) (dq (dg dof 30 rfl)) (fun _ _ => ⟨rfl, rfl, (by decide : 9 + 0 ≤ _), (by decide : 43 + 0 ≤ _)⟩)
  dsimp only [Pt.U, Pt.locs, Pt.cells, Pt.slots] at X732 l732 y732 z732 st732 hQ732
  subst l732 y732 z732
  obtain ⟨rfl, Nq732, K732, B732⟩ := hQ732
  have N732 := Fr.app N727 Nq732
  have Ex733 : Ext h0 T732.heap := extKeep Ex728 K732 (allS le713 (allS le722 all0))
  have Ex735 : Ext h699 T732.heap := extKeep Ex730 K732 (allS le715 (allS le724 all0))
  have Ex736 : Ext T704.heap T732.heap := extKeep Ex731 K732 (allS le716 (allS le725 all0))
  refine R2 st732 ?_
  show Rch p e below T732 (mkF m 82 #[vR ts, vR ta, .unset, vR a685] [(.ref a708), (.ref t704), (.ref a699), (.ref a699)]) _
  refine R1 (XS.aloadN X732.here hx rfl (dq (dg dof 31 rfl)) rfl rfl) ?_
  show Rch p e below T732 (mkF m 83 #[vR ts, vR ta, .unset, vR a685] [(.ref ta), (.ref a708), (.ref t704), (.ref a699), (.ref a699)]) _
  obtain ⟨cq737, kq737, q737a, q737b, q737c⟩ := isOf hZ rfl (HC.ext Ex733).1
  obtain ⟨_, _, ⟨T737, L737, k737, n737⟩, -, X737, ⟨Lc737, hQ737, l737, y737, z737⟩, st737⟩ := X732.virtualBack hx (y := mN60) (z := mN60) hown (mw hZ hw 386 rfl) (mw hZ hw 387 rfl) (notFace_of_selects (args := #[]) (mw hZ hw 389 rfl)) (mw hZ hw 389 rfl) (mw hZ hw 388 rfl) (by decide) (backOf (W := 4) (rm_txt l Z a0 hw [] ta tl tx T732.heap n0 (Nat.le_trans Z0 Ex733.1) (HC.ext Ex733)) hZ (wq hw 390 rfl) (wq hw 88 rfl) (by decide) (by decide)) q737a q737c (g := (mkF m 83 #[vR ts, vR ta, .unset, vR a685] [(.ref ta), (.ref a708), (.ref t704), (.ref a699), (.ref a699)])) rfl (by rw [hml]; rfl) (Steps.refl _) (argsL := []) (rest := [(.ref a708), (.ref t704), (.ref a699), (.ref a699)]) (lenOf pd_35 rfl) rfl (w0 rfl) (dq (dg dof 32 rfl)) (fun _ _ => ⟨rfl, rfl, (by decide : 9 + 0 ≤ _), (by decide : 43 + 0 ≤ _)⟩)
  dsimp only [Pt.U, Pt.locs, Pt.cells, Pt.slots] at X737 l737 y737 z737 st737 hQ737
  subst l737 y737 z737
  obtain ⟨rfl, Nq737, e737⟩ := hQ737
  have N737 := Fr.app N732 Nq737
  refine R2 st737 ?_
  show Rch p e below T737 (mkF m 86 #[vR ts, vR ta, .unset, vR a685] [(.ref tx), (.ref a708), (.ref t704), (.ref a699), (.ref a699)]) _
  obtain ⟨cq738, kq738, q738a, q738b, q738c⟩ := isOf hZ e737 B732.1
  obtain ⟨_, _, ⟨T738, L738, k738, n738⟩, -, X738, ⟨Lc738, hQ738, l738, y738, z738⟩, st738⟩ := X737.virtualBack hx (y := mN48) (z := mN48) hown (mw hZ hw 271 rfl) (mw hZ hw 272 rfl) (notFace_of_selects (args := #[]) (mw hZ hw 274 rfl)) (mw hZ hw 274 rfl) (mw hZ hw 273 rfl) (by decide) (backOf (W := 3) (rm_sbApp l Z a0 hw [] a708 va717 tx (0 + ns + 1) nt T732.heap n0 (Nat.le_trans Z0 Ex733.1) B732 (SX.ext Ex733) (Nat.le_trans Z0 le713) (Nat.le_trans Z0 le722) (by omega) (CS.ext Ex733)) hZ (wq hw 275 rfl) (wq hw 255 rfl) (by decide) (by decide)) q738a q738c (g := (mkF m 86 #[vR ts, vR ta, .unset, vR a685] [(.ref tx), (.ref a708), (.ref t704), (.ref a699), (.ref a699)])) rfl (by rw [hml]; rfl) (Steps.refl _) (argsL := [(.ref tx)]) (rest := [(.ref t704), (.ref a699), (.ref a699)]) (lenOf pd_33 rfl) rfl (w0 rfl) (dq (dg dof 33 rfl)) (fun _ _ => ⟨rfl, e737, (by decide : 9 + 0 ≤ _), (by decide : 43 + 0 ≤ _)⟩)
  dsimp only [Pt.U, Pt.locs, Pt.cells, Pt.slots] at X738 l738 y738 z738 st738 hQ738
  subst l738 y738 z738
  obtain ⟨rfl, Nq738, K738, B738⟩ := hQ738
  have N738 := Fr.app N737 Nq738
  have Ex739 : Ext h0 T738.heap := extKeep Ex733 K738 (allS le713 (allS le722 all0))
  have Ex741 : Ext h699 T738.heap := extKeep Ex735 K738 (allS le715 (allS le724 all0))
  have Ex742 : Ext T704.heap T738.heap := extKeep Ex736 K738 (allS le716 (allS le725 all0))
  refine R2 st738 ?_
  show Rch p e below T738 (mkF m 89 #[vR ts, vR ta, .unset, vR a685] [(.ref a708), (.ref t704), (.ref a699), (.ref a699)]) _
  obtain ⟨cq743, kq743, q743a, q743b, q743c⟩ := isOf hZ rfl B738.1
  obtain ⟨_, _, ⟨T743, L743, k743, n743⟩, -, X743, ⟨Lc743, hQ743, l743, y743, z743⟩, st743⟩ := X738.virtualBack hx (y := mN56) (z := mN56) hown (mw hZ hw 330 rfl) (mw hZ hw 331 rfl) (notFace_of_selects (args := #[]) (mw hZ hw 333 rfl)) (mw hZ hw 333 rfl) (mw hZ hw 332 rfl) (by decide) (backOf (W := 3) (rm_sbStr l Z a0 hw [] a708 va717 (0 + ns + 1 + nt) T738.heap n0 (Nat.le_trans Z0 Ex739.1) B738 (by omega) (CS.ext Ex739)) hZ (wq hw 334 rfl) (wq hw 255 rfl) (by decide) (by decide)) q743a q743c (g := (mkF m 89 #[vR ts, vR ta, .unset, vR a685] [(.ref a708), (.ref t704), (.ref a699), (.ref a699)])) rfl (by rw [hml]; rfl) (Steps.refl _) (argsL := []) (rest := [(.ref t704), (.ref a699), (.ref a699)]) (lenOf pd_35 rfl) rfl (w0 rfl) (dq (dg dof 34 rfl)) (fun _ _ => ⟨rfl, rfl, (by decide : 9 + 2 ≤ _), (by decide : 43 + 20 ≤ _)⟩)
  dsimp only [Pt.U, Pt.locs, Pt.cells, Pt.slots] at X743 l743 y743 z743 st743 hQ743
  subst l743 y743 z743
  obtain ⟨t743, rfl, Nq743, E743, le743_, EX743⟩ := hQ743
  have N743 := Fr.app N738 Nq743
  have Ex744 : Ext h0 T743.heap := Ex739.tr E743
  have Ex746 : Ext h699 T743.heap := Ex741.tr E743
  have Ex747 : Ext T704.heap T743.heap := Ex742.tr E743
  refine R2 st743 ?_
  show Rch p e below T743 (mkF m 92 #[vR ts, vR ta, .unset, vR a685] [(.ref t743), (.ref t704), (.ref a699), (.ref a699)]) _
  obtain ⟨_, _, ⟨T749, L749, k749, n749⟩, -, X749, ⟨Lc749, hQ749, l749, y749, z749⟩, st749⟩ := X743.specialBack hx (y := mN58) rfl hown (mw hZ hw 365 rfl) (mw hZ hw 90 rfl) (mw hZ hw 91 rfl) (by decide) (backOf (W := 1) (rm_chI l Z a0 hw [] a699 t704 t743 T743.heap n0 (Nat.le_trans Z0 Ex744.1) (Nat.le_trans Z0 le702) (A699.ext Ex746) ((D699 (Or.inr (wq hw 99 rfl)) (ty := (.object "java/util/List")) (by decide)).ext Ex746) ((D699 (Or.inr (wq hw 101 rfl)) (ty := (.object "java/lang/String")) (by decide)).ext Ex746)) hZ (wq hw 91 rfl) (wq hw 88 rfl) (by decide) (by decide)) (g := (mkF m 92 #[vR ts, vR ta, .unset, vR a685] [(.ref t743), (.ref t704), (.ref a699), (.ref a699)])) rfl (by rw [hml]; rfl) (Steps.refl _) (a := a699) (argsL := [(.ref t704), (.ref t743)]) (rest := [(.ref a699)]) (lenOf pd_36 rfl) rfl (w0 rfl) (dq (dg dof 35 rfl)) (fun _ _ => ⟨rfl, rfl, (by decide : 11 + 0 ≤ _), (by decide : 63 + 0 ≤ _)⟩)
  dsimp only [Pt.U, Pt.locs, Pt.cells, Pt.slots] at X749 l749 y749 z749 st749 hQ749
  subst l749 y749 z749
  obtain ⟨rfl, Nq749, K749, G749⟩ := hQ749
  have N749 := Fr.app N743 Nq749
  have Ex750 : Ext h0 T749.heap := extKeep Ex744 K749 (allS le702 all0)
  refine R2 st749 ?_
  show Rch p e below T749 (mkF m 95 #[vR ts, vR ta, .unset, vR a685] [(.ref a699)]) _
  have R9 := (R704.ext Ex747).keepC K749 (A699.ext Ex746)
  refine R1 (XS.astoreN X749.here hx rfl (dq (dg dof 36 rfl)) rfl rfl (l' := #[vR ts, vR ta, vR a699, vR a685]) rfl) ?_
  refine R1 (XS.aloadN X749.here hx rfl (dq (dg dof 37 rfl)) rfl rfl) ?_
  show Rch p e below T749 (mkF m 97 #[vR ts, vR ta, vR a699, vR a685] [(.ref a699)]) _
  exact Rch.fin (Q := Q_of3 Z ta tl tx ts ea mr y0 y1 y2 nt ns h0 n0) X749 (v := some (.ref a699)) (fun h => by rw [Bd.returns] at h; cases h) (BodyLoose.notSynchronized Bd) (fun fs hr => retR X749 hx Bd.returns rfl rfl (dq (dg dof 38 rfl)) hr) ⟨a699, t704, t743, rfl, N749, Ex750, G749, R9⟩ (by decide) (by decide)
theorem dst : dxs method_2_code [(0, .iload_n 0, 1), (1, .sipush 255, 3), (4, .iand, 1), (5, .i2c, 1), (6, .istore_n 1, 1), (7, .iload_n 0, 1), (8, .bipush 8, 2), (10, .iushr, 1), (11, .sipush 255, 3), (14, .iand, 1), (15, .i2c, 1), (16, .istore_n 2, 1), (17, .iload_n 0, 1), (18, .bipush 16, 2), (20, .iushr, 1), (21, .iconst 1, 1), (22, .iand, 1), (23, .ifCond .ne 8, 3), (26, .iload_n 1, 1), (27, .invokestatic 7, 3), (30, .areturn, 1), (31, .new 8, 3), (34, .dup, 1), (35, .iconst 2, 1), (36, .newarray .char, 2), (38, .dup, 1), (39, .iconst 0, 1), (40, .iload_n 1, 1), (41, .castore, 1), (42, .dup, 1), (43, .iconst 1, 1), (44, .iload_n 2, 1), (45, .castore, 1), (46, .invokespecial 13, 3), (49, .areturn, 1)] = true := by decide +kernel
theorem pn_str : plainFor (⟨"com/example/ampersat/ampersat/index/ChainLastPinLaw", "str", "(I)Ljava/lang/String;"⟩ : MethodName) = true := plainFor_of_name (by first | (simp [plainName, overriddenIn]; done) | decide +kernel)
theorem ef_str (m : MethodId) (x0 : Int32) : entryFrame m #[(.int x0)] 3 = mkF m 0 #[vI x0, .unset, .unset] [] := by first | (simp [entryFrame, mkF, argsToLocals, Value.category]; done) | rfl
def Q_str (Z : State) (px : Int32) (h0 : Heap) (n0 : Nat) (v : Option Value) (h : Heap) (L : List Loc) : Prop := ∃ a n, v = some (.ref a) ∧ Fr n0 L ∧ Ext h0 h ∧ Sl Z h a n ∧ n ≤ 2
set_option maxRecDepth 65536 in
set_option maxHeartbeats 40000000 in
theorem rm_str (l : Launch) (Z : State) (a0 : Array Value) (hw : ∀ d ∈ tables_1, d.before a0 Z = true) (ws : List Jvm.Cond) (px : Int32) (h0 : Heap) (n0 : Nat) (Z0 : n0 ≤ h0.size) (CS : Cmp Z h0) :
    MetFree l mN73 (head1 (Jvm.Cond.code mN73 method_2_code 3 (some (.object "java/lang/String")) :: ws) rO46) (fun a U => a = #[(.int px)] ∧ Z.Warmed39 U.vm ∧ U.heap = h0) (fun _ _ _ _ _ => True) (fun _ U o U' => ∃ v L, o = .returned v ∧ Q_str Z px h0 n0 v U'.heap L ∧ FrameEnd U o U' L rO46.cells rO46.slots) := by
  refine MetFree.of_bodySF pn_str hisR ?_
  intro p e s m args below meth c s₁ Bd hml0 hP hK
  obtain ⟨rfl, hZ, hh⟩ := hP
  have hx := Bd.exec
  have hby := Bd.bytes
  have dq := @hb _ _ hby
  have hml : c.maxLocals = 3 := hml0
  have hown : s.vm.findClass "com/example/ampersat/ampersat/index/ChainLastPinLaw" = some m.cls := findClass_of_methodNamed Bd.named
  have X0 : Stand p l e rO46 s m #[(.int px)] below meth c s₁ [] 0 0 := Stand.of_body Bd
  have e0 : s₁.heap = h0 := by rw [← hh, Bd.state]; rfl
  have N0 := Fr.nil n0
  show Rch p e below s₁ (entryFrame m #[(.int px)] 3) (fun U o => ∃ v L, o = .returned v ∧ Q_str Z px h0 n0 v U.heap L ∧ FrameEnd s o U L rO46.cells rO46.slots)
  refine Rch.cast (ef_str m px) ?_
  show Rch p e below s₁ (mkF m 0 #[vI px, .unset, .unset] []) _
  refine R1 (XS.iloadN X0.here hx rfl (dq (dg dst 0 rfl)) rfl) ?_
  refine R1 (XS.sipush X0.here hx rfl (dq (dg dst 1 rfl)) ) ?_
  refine R1 (XS.iand X0.here hx rfl (dq (dg dst 2 rfl)) rfl) ?_
  refine R1 (XT.i2c X0.here hx rfl (dq (dg dst 3 rfl)) rfl) ?_
  show Rch p e below s₁ (mkF m 6 #[vI px, .unset, .unset] [(.int ((px &&& (255 : Int32)).toUInt32.toUInt16.toUInt32.toInt32))]) _
  generalize hc1 : ((px &&& (255 : Int32)).toUInt32.toUInt16.toUInt32.toInt32) = c1
  have k1 : C8 c1 := hc1 ▸ c8_and _
  show Rch p e below s₁ (mkF m 6 #[vI px, .unset, .unset] [(.int c1)]) _
  refine R1 (XS.istoreN X0.here hx rfl (dq (dg dst 4 rfl)) rfl (l' := #[vI px, vI c1, .unset]) rfl) ?_
  refine R1 (XS.iloadN X0.here hx rfl (dq (dg dst 5 rfl)) rfl) ?_
  refine R1 (XS.bipush X0.here hx rfl (dq (dg dst 6 rfl)) ) ?_
  refine R1 (XT.iushr X0.here hx rfl (dq (dg dst 7 rfl)) rfl) ?_
  show Rch p e below s₁ (mkF m 11 #[vI px, vI c1, .unset] [(.int (XT.ushr px (8 : Int32)))]) _
  refine R1 (XS.sipush X0.here hx rfl (dq (dg dst 8 rfl)) ) ?_
  refine R1 (XS.iand X0.here hx rfl (dq (dg dst 9 rfl)) rfl) ?_
  refine R1 (XT.i2c X0.here hx rfl (dq (dg dst 10 rfl)) rfl) ?_
  show Rch p e below s₁ (mkF m 16 #[vI px, vI c1, .unset] [(.int (((XT.ushr px (8 : Int32)) &&& (255 : Int32)).toUInt32.toUInt16.toUInt32.toInt32))]) _
  generalize hc2 : (((XT.ushr px (8 : Int32)) &&& (255 : Int32)).toUInt32.toUInt16.toUInt32.toInt32) = c2
  have k2 : C8 c2 := hc2 ▸ c8_and _
  show Rch p e below s₁ (mkF m 16 #[vI px, vI c1, .unset] [(.int c2)]) _
  refine R1 (XS.istoreN X0.here hx rfl (dq (dg dst 11 rfl)) rfl (l' := #[vI px, vI c1, vI c2]) rfl) ?_
  refine R1 (XS.iloadN X0.here hx rfl (dq (dg dst 12 rfl)) rfl) ?_
  refine R1 (XS.bipush X0.here hx rfl (dq (dg dst 13 rfl)) ) ?_
  refine R1 (XT.iushr X0.here hx rfl (dq (dg dst 14 rfl)) rfl) ?_
  show Rch p e below s₁ (mkF m 21 #[vI px, vI c1, vI c2] [(.int (XT.ushr px (16 : Int32)))]) _
  refine R1 (XS.iconst X0.here hx rfl (dq (dg dst 15 rfl)) ) ?_
  refine R1 (XS.iand X0.here hx rfl (dq (dg dst 16 rfl)) rfl) ?_
  show Rch p e below s₁ (mkF m 23 #[vI px, vI c1, vI c2] [(.int ((XT.ushr px (16 : Int32)) &&& (1 : Int32)))]) _
  by_cases hn0 : ((XT.ushr px (16 : Int32)) &&& (1 : Int32)) = (0 : Int32)
  · skip
    refine R1 (XS.ifNo X0.here hx rfl (dq (dg dst 17 rfl)) rfl ((if0 _ _).trans (teq hn0).2)) ?_
    refine R1 (XS.iloadN X0.here hx rfl (dq (dg dst 18 rfl)) rfl) ?_
    show Rch p e below s₁ (mkF m 27 #[vI px, vI c1, vI c2] [(.int c1)]) _
    obtain ⟨_, _, ⟨T752, L752, k752, n752⟩, -, X752, ⟨Lc752, hQ752, l752, y752, z752⟩, st752⟩ := Jvm.LawKit.callS X0 hx (y := mN34) hown (mw hZ hw 4 rfl) (mw hZ hw 5 rfl) (mw hZ hw 6 rfl) (mw hZ hw 7 rfl) (by decide) (backOf (W := 0) (rm_valueOf l Z a0 hw [] c1 h0 n0 Z0 k1.1 CS) hZ (wq hw 7 rfl) (wq hw 6 rfl) (by decide) (by decide)) (g := (mkF m 27 #[vI px, vI c1, vI c2] [(.int c1)])) rfl (by rw [hml]; rfl) (argsL := [(.int c1)]) (rest := []) (lenOf pd_38 rfl) rfl (w0 rfl) (dq (dg dst 19 rfl)) (fun _ _ => ⟨rfl, e0, (by decide : 0 + 2 ≤ _), (by decide : 0 + 5 ≤ _)⟩)
    dsimp only [Pt.U, Pt.locs, Pt.cells, Pt.slots] at X752 l752 y752 z752 st752 hQ752
    subst l752 y752 z752
    obtain ⟨a752, rfl, Nq752, E752, Q752⟩ := hQ752
    have N752 := Fr.app N0 Nq752
    have Ex753 : Ext h0 T752.heap := E752
    refine R0_ st752 ?_
    show Rch p e below T752 (mkF m 30 #[vI px, vI c1, vI c2] [(.ref a752)]) _
    exact Rch.fin (Q := Q_str Z px h0 n0) X752 (v := some (.ref a752)) (fun h => by rw [Bd.returns] at h; cases h) (BodyLoose.notSynchronized Bd) (fun fs hr => retR X752 hx Bd.returns rfl rfl (dq (dg dst 20 rfl)) hr) ⟨a752, 1, rfl, N752, Ex753, sl1 Q752 k1, (Nat.le_of_ble_eq_true rfl)⟩ (by decide) (by decide)
  · skip
    refine R1 (XS.ifYes X0.here hx rfl (pc0 := 23) (pc' := 31) rfl (dq (dg dst 17 rfl)) rfl ((if0 _ _).trans (feq hn0).2) (by decide) (by decide)) ?_
    show Rch p e below s₁ (mkF m 31 #[vI px, vI c1, vI c2] []) _
    obtain ⟨T754, h754, X754, e754, E754, A754, D754, -, st754⟩ := newO X0 hx hZ hown (wq hw 421 rfl) (wq hw 14 rfl) (wq hw 6 rfl) e0 (g := (mkF m 31 #[vI px, vI c1, vI c2] [])) rfl (dq (dg dst 21 rfl)) (by decide) (by decide)
    obtain ⟨a754, g754⟩ : ∃ z, z = h0.size := ⟨_, rfl⟩
    rw [← g754] at A754 D754 st754
    have Ex755 : Ext h0 h754 := E754
    have le756 : h0.size ≤ a754 := Nat.le_of_eq g754.symm
    refine R0_ st754 ?_
    show Rch p e below T754 (mkF m 34 #[vI px, vI c1, vI c2] [(.ref a754)]) _
    refine R1 (XS.dup X754.here hx rfl (dq (dg dst 22 rfl)) rfl rfl) ?_
    refine R1 (XS.iconst X754.here hx rfl (dq (dg dst 23 rfl)) ) ?_
    show Rch p e below T754 (mkF m 36 #[vI px, vI c1, vI c2] [(.int (2 : Int32)), (.ref a754), (.ref a754)]) _
    obtain ⟨T757, h757, k757, X757, e757, E757, A757, st757⟩ := newP X754 hx hZ (wq hw 422 rfl) e754 (g := (mkF m 36 #[vI px, vI c1, vI c2] [(.int (2 : Int32)), (.ref a754), (.ref a754)])) rfl (dq (dg dst 24 rfl)) rfl (by decide : ¬ ((2 : Int32) < (0 : Int32))) (cap := 2) (by decide : ((2 : Int32)).toNatClampNeg ≤ 2) (by decide) (by decide) (by decide)
    obtain ⟨a757, g757⟩ : ∃ z, z = h754.size := ⟨_, rfl⟩
    rw [← g757] at A757 st757
    have Ex758 : Ext h0 h757 := Ex755.tr E757
    have Ex759 : Ext h754 h757 := E757
    have le760 : h0.size ≤ a757 := Nat.le_trans Ex755.1 (Nat.le_of_eq g757.symm)
    have le761 : h754.size ≤ a757 := Nat.le_of_eq g757.symm
    refine R0_ st757 ?_
    show Rch p e below T757 (mkF m 38 #[vI px, vI c1, vI c2] [(.ref a757), (.ref a754), (.ref a754)]) _
    have V757 : Arv Z h757 a757 k757 .char (2 : Int32) [(.int (0 : Int32)), (.int (0 : Int32))] (.int (0 : Int32)) := (Arv.new A757 (by decide : ¬ ((2 : Int32) < (0 : Int32)))).pad (pad_rep [] (.int (0 : Int32)) 2)
    refine R1 (XS.dup X757.here hx rfl (dq (dg dst 25 rfl)) rfl rfl) ?_
    refine R1 (XS.iconst X757.here hx rfl (dq (dg dst 26 rfl)) ) ?_
    refine R1 (XS.iloadN X757.here hx rfl (dq (dg dst 27 rfl)) rfl) ?_
    show Rch p e below T757 (mkF m 41 #[vI px, vI c1, vI c2] [(.int c1), (.int (0 : Int32)), (.ref a757), (.ref a757), (.ref a754), (.ref a754)]) _
    obtain ⟨T762, h762, L762, sl762, X762, e762, W762, V762, N762, st762⟩ := stCv X757 hx hZ e757 V757 N0 (Nat.le_trans Z0 le760) (j := (0 : Int32)) ⟨by decide, by decide⟩ 0 rfl (Nat.le_of_ble_eq_true rfl) (g := (mkF m 41 #[vI px, vI c1, vI c2] [(.int c1), (.int (0 : Int32)), (.ref a757), (.ref a757), (.ref a754), (.ref a754)])) rfl rfl (dq (dg dst 28 rfl))
    have V762_ := V762
    rw [k1.2] at V762_
    have V762' : Arv Z h762 a757 k757 .char (2 : Int32) [(.int c1), (.int (0 : Int32))] (.int (0 : Int32)) := V762_
    have Ex763 : Ext h0 h762 := extWr Ex758 W762 le760
    have Ex764 : Ext h754 h762 := extWr Ex759 W762 le761
    refine R0_ st762 ?_
    show Rch p e below T762 (mkF m 42 #[vI px, vI c1, vI c2] [(.ref a757), (.ref a754), (.ref a754)]) _
    refine R1 (XS.dup X762.here hx rfl (dq (dg dst 29 rfl)) rfl rfl) ?_
    refine R1 (XS.iconst X762.here hx rfl (dq (dg dst 30 rfl)) ) ?_
    refine R1 (XS.iloadN X762.here hx rfl (dq (dg dst 31 rfl)) rfl) ?_
    show Rch p e below T762 (mkF m 45 #[vI px, vI c1, vI c2] [(.int c2), (.int (1 : Int32)), (.ref a757), (.ref a757), (.ref a754), (.ref a754)]) _
    obtain ⟨T765, h765, L765, sl765, X765, e765, W765, V765, N765, st765⟩ := stCv X762 hx hZ e762 V762' N762 (Nat.le_trans Z0 le760) (j := (1 : Int32)) ⟨by decide, by decide⟩ 1 rfl (Nat.le_of_ble_eq_true rfl) (g := (mkF m 45 #[vI px, vI c1, vI c2] [(.int c2), (.int (1 : Int32)), (.ref a757), (.ref a757), (.ref a754), (.ref a754)])) rfl rfl (dq (dg dst 32 rfl))
    have V765_ := V765
    rw [k2.2] at V765_
    have V765' : Arv Z h765 a757 k757 .char (2 : Int32) [(.int c1), (.int c2)] (.int (0 : Int32)) := V765_
    have Ex766 : Ext h0 h765 := extWr Ex763 W765 le760
    have Ex767 : Ext h754 h765 := extWr Ex764 W765 le761
    refine R0_ st765 ?_
    show Rch p e below T765 (mkF m 46 #[vI px, vI c1, vI c2] [(.ref a757), (.ref a754), (.ref a754)]) _
    obtain ⟨_, _, ⟨T768, L768, k768, n768⟩, -, X768, ⟨Lc768, hQ768, l768, y768, z768⟩, st768⟩ := X765.specialBack hx (y := mN74) rfl hown (mw hZ hw 423 rfl) (mw hZ hw 424 rfl) (mw hZ hw 425 rfl) (by decide) (backS (W := 1) hZ hw (cs := [c1, c2]) (n := 2) (Nat.le_trans Z0 le756) (Nat.le_trans Z0 Ex766.1) (A754.ext Ex767) ((D754 (Or.inr (wq hw 27 rfl)) (ty := (.array .byte)) (by decide)).ext Ex767) ((D754 (Or.inr (wq hw 29 rfl)) (ty := .byte) (by decide)).ext Ex767) V765' (CS.ext Ex766) rfl rfl (by decide) (by decide) (c8_cons k1.1 (c8_cons k2.1 c8_nil)) (by decide) (by decide)) (g := (mkF m 46 #[vI px, vI c1, vI c2] [(.ref a757), (.ref a754), (.ref a754)])) rfl (by rw [hml]; rfl) (Steps.refl _) (a := a754) (argsL := [(.ref a757)]) (rest := [(.ref a754)]) (lenOf pd_39 rfl) rfl (w0 rfl) (dq (dg dst 33 rfl)) (fun _ _ => ⟨rfl, e765, (by decide : 2 + 1 ≤ _), (by decide : 6 + 2 ≤ _)⟩)
    dsimp only [Pt.U, Pt.locs, Pt.cells, Pt.slots] at X768 l768 y768 z768 st768 hQ768
    subst l768 y768 z768
    obtain ⟨rfl, Nq768, K768, Q768⟩ := hQ768
    have N768 := Fr.app N765 Nq768
    have Ex769 : Ext h0 T768.heap := extKeep1 Ex766 K768 le756
    refine R2 st768 ?_
    show Rch p e below T768 (mkF m 49 #[vI px, vI c1, vI c2] [(.ref a754)]) _
    exact Rch.fin (Q := Q_str Z px h0 n0) X768 (v := some (.ref a754)) (fun h => by rw [Bd.returns] at h; cases h) (BodyLoose.notSynchronized Bd) (fun fs hr => retR X768 hx Bd.returns rfl rfl (dq (dg dst 34 rfl)) hr) ⟨a754, 2, rfl, N768, Ex769, sl2 Q768 k1 k2, Nat.le_refl _⟩ (by decide) (by decide)
theorem dlw : dxs code [(0, .iload_n 0, 1), (1, .invokestatic 16, 3), (4, .astore 5, 2), (6, .iload_n 1, 1), (7, .invokestatic 16, 3), (10, .astore 6, 2), (12, .iload_n 2, 1), (13, .invokestatic 16, 3), (16, .astore 7, 2), (18, .iload_n 3, 1), (19, .invokestatic 16, 3), (22, .astore 8, 2), (24, .iload 4, 2), (26, .ldc 22, 2), (28, .iand, 1), (29, .iconst 3, 1), (30, .irem, 1), (31, .iconst 1, 1), (32, .iadd, 1), (33, .istore 9, 2), (35, .new 23, 3), (38, .dup, 1), (39, .invokespecial 25, 3), (42, .astore 10, 2), (44, .aload 10, 2), (46, .aload 5, 2), (48, .invokevirtual 26, 3), (51, .pop, 1), (52, .iload 9, 2), (54, .iconst 2, 1), (55, .if_icmp .lt 11, 3), (58, .aload 10, 2), (60, .aload 6, 2), (62, .invokevirtual 26, 3), (65, .pop, 1), (66, .iload 9, 2), (68, .iconst 3, 1), (69, .if_icmp .lt 11, 3), (72, .aload 10, 2), (74, .aload 7, 2), (76, .invokevirtual 26, 3), (79, .pop, 1), (80, .iload 9, 2), (82, .iconst 1, 1), (83, .if_icmp .ne 10, 3), (86, .aload 5, 2), (88, .astore 11, 2), (90, .goto 20, 3), (93, .iload 9, 2), (95, .iconst 2, 1), (96, .if_icmp .ne 10, 3), (99, .aload 6, 2), (101, .astore 11, 2), (103, .goto 7, 3), (106, .aload 7, 2), (108, .astore 11, 2), (110, .new 30, 3), (113, .dup, 1), (114, .aload 10, 2), (116, .aload 5, 2), (118, .invokespecial 32, 3), (121, .astore 12, 2), (123, .aload 11, 2), (125, .aload 12, 2), (127, .invokevirtual 35, 3), (130, .invokevirtual 39, 3), (133, .istore 13, 2), (135, .aload 8, 2), (137, .aload 12, 2), (139, .aload 8, 2), (141, .invokevirtual 42, 3), (144, .invokevirtual 35, 3), (147, .invokevirtual 39, 3), (150, .istore 14, 2), (152, .aload 11, 2), (154, .aload 8, 2), (156, .aload 12, 2), (158, .invokestatic 46, 3), (161, .invokevirtual 35, 3), (164, .invokevirtual 39, 3), (167, .istore 15, 2), (169, .iload 13, 2), (171, .ifCond .eq 17, 3), (174, .iload 14, 2), (176, .ifCond .eq 12, 3), (179, .iload 15, 2), (181, .ifCond .eq 7, 3), (184, .iconst 1, 1), (185, .goto 4, 3), (189, .ireturn, 1)] = true := by decide +kernel
theorem pn_law : plainFor x = true := by first | exact plainFor_of_name (by first | (simp [plainName, overriddenIn]; done) | decide +kernel) | exact Jvm.Free.JP.mathPlain rfl (by decide +kernel)
theorem ef_law (m : MethodId) (x0 : Int32) (x1 : Int32) (x2 : Int32) (x3 : Int32) (x4 : Int32) : entryFrame m #[(.int x0), (.int x1), (.int x2), (.int x3), (.int x4)] maxLocals = mkF m 0 #[vI x0, vI x1, vI x2, vI x3, vI x4, .unset, .unset, .unset, .unset, .unset, .unset, .unset, .unset, .unset, .unset, .unset] [] := by first | (simp [entryFrame, mkF, argsToLocals, Value.category, maxLocals]; done) | rfl
def Q_law (Z : State) (pa pb pc pd pk : Int32) (da em mr : Addr) (h0 : Heap) (n0 : Nat) (v : Option Value) (h : Heap) (L : List Loc) : Prop := v = some (.int 1) ∧ Fr n0 L
set_option maxRecDepth 65536 in
set_option maxHeartbeats 40000000 in
theorem rm_law (l : Launch) (Z : State) (a0 : Array Value) (hw : ∀ d ∈ tables_1, d.before a0 Z = true) (ws : List Jvm.Cond) (pa pb pc pd pk : Int32) (da em mr : Addr) (h0 : Heap) (n0 : Nat) (Z0 : n0 ≤ h0.size) (CS : Cmp Z h0) (DS : Sta Z h0 "java/util/ArrayList" "DEFAULTCAPACITY_EMPTY_ELEMENTDATA" "[Ljava/lang/Object;" (.ref da)) (DA : Oar Z h0 da 0 []) (hda : da < n0) (EMS : Sta Z h0 "java/util/ImmutableCollections" "EMPTY" "Ljava/lang/Object;" (.ref em)) (EME : Exa Z h0 em "java/lang/Object") (MR : Mi Z "[Ljava/lang/Object;" mr) :
    MetFree l x (head1 (Jvm.Cond.code x code maxLocals ret :: ws) room_1) (fun a U => a = #[(.int pa), (.int pb), (.int pc), (.int pd), (.int pk)] ∧ Z.Warmed39 U.vm ∧ U.heap = h0) (fun _ _ _ _ _ => True) (fun _ U o U' => ∃ v L, o = .returned v ∧ Q_law Z pa pb pc pd pk da em mr h0 n0 v U'.heap L ∧ FrameEnd U o U' L 88 384) := by
  refine MetFree.of_bodySF pn_law hisR ?_
  intro p e s m args below meth c s₁ Bd hml0 hP hK
  obtain ⟨rfl, hZ, hh⟩ := hP
  have hx := Bd.exec
  have hby := Bd.bytes
  have dq := @hb _ _ hby
  have hml : c.maxLocals = 16 := hml0
  have hown : s.vm.findClass "com/example/ampersat/ampersat/index/ChainLastPinLaw" = some m.cls := findClass_of_methodNamed Bd.named
  have X0 : Stand p l e room_1 s m #[(.int pa), (.int pb), (.int pc), (.int pd), (.int pk)] below meth c s₁ [] 0 0 := Stand.of_body Bd
  have e0 : s₁.heap = h0 := by rw [← hh, Bd.state]; rfl
  have N0 := Fr.nil n0
  show Rch p e below s₁ (entryFrame m #[(.int pa), (.int pb), (.int pc), (.int pd), (.int pk)] maxLocals) (fun U o => ∃ v L, o = .returned v ∧ Q_law Z pa pb pc pd pk da em mr h0 n0 v U.heap L ∧ FrameEnd s o U L 88 384)
  refine Rch.cast (ef_law m pa pb pc pd pk) ?_
  show Rch p e below s₁ (mkF m 0 #[vI pa, vI pb, vI pc, vI pd, vI pk, .unset, .unset, .unset, .unset, .unset, .unset, .unset, .unset, .unset, .unset, .unset] []) _
  refine R1 (XS.iloadN X0.here hx rfl (dq (dg dlw 0 rfl)) rfl) ?_
  show Rch p e below s₁ (mkF m 1 #[vI pa, vI pb, vI pc, vI pd, vI pk, .unset, .unset, .unset, .unset, .unset, .unset, .unset, .unset, .unset, .unset, .unset] [(.int pa)]) _
  obtain ⟨_, _, ⟨T770, L770, k770, n770⟩, -, X770, ⟨Lc770, hQ770, l770, y770, z770⟩, st770⟩ := Jvm.LawKit.callS X0 hx (y := mN73) hown (mw hZ hw 0 rfl) (mw hZ hw 1 rfl) (mw hZ hw 2 rfl) (mw hZ hw 3 rfl) (by decide) (backOf (W := 0) (rm_str l Z a0 hw [] pa h0 n0 Z0 CS) hZ (wq hw 3 rfl) (wq hw 2 rfl) (by decide) (by decide)) (g := (mkF m 1 #[vI pa, vI pb, vI pc, vI pd, vI pk, .unset, .unset, .unset, .unset, .unset, .unset, .unset, .unset, .unset, .unset, .unset] [(.int pa)])) rfl (by rw [hml]; rfl) (argsL := [(.int pa)]) (rest := []) (lenOf pd_40 rfl) rfl (w0 rfl) (dq (dg dlw 1 rfl)) (fun _ _ => ⟨rfl, e0, (by decide : 0 + 3 ≤ _), (by decide : 0 + 8 ≤ _)⟩)
  dsimp only [Pt.U, Pt.locs, Pt.cells, Pt.slots] at X770 l770 y770 z770 st770 hQ770
  subst l770 y770 z770
  obtain ⟨a770, m770, rfl, Nq770, E770, S770, ml770⟩ := hQ770
  have N770 := Fr.app N0 Nq770
  have Ex771 : Ext h0 T770.heap := E770
  refine R0_ st770 ?_
  show Rch p e below T770 (mkF m 4 #[vI pa, vI pb, vI pc, vI pd, vI pk, .unset, .unset, .unset, .unset, .unset, .unset, .unset, .unset, .unset, .unset, .unset] [(.ref a770)]) _
  refine R1 (XS.astore X770.here hx rfl (dq (dg dlw 2 rfl)) rfl rfl (l' := #[vI pa, vI pb, vI pc, vI pd, vI pk, vR a770, .unset, .unset, .unset, .unset, .unset, .unset, .unset, .unset, .unset, .unset]) rfl) ?_
  refine R1 (XS.iloadN X770.here hx rfl (dq (dg dlw 3 rfl)) rfl) ?_
  show Rch p e below T770 (mkF m 7 #[vI pa, vI pb, vI pc, vI pd, vI pk, vR a770, .unset, .unset, .unset, .unset, .unset, .unset, .unset, .unset, .unset, .unset] [(.int pb)]) _
  obtain ⟨_, _, ⟨T772, L772, k772, n772⟩, -, X772, ⟨Lc772, hQ772, l772, y772, z772⟩, st772⟩ := Jvm.LawKit.callS X770 hx (y := mN73) hown (mw hZ hw 0 rfl) (mw hZ hw 1 rfl) (mw hZ hw 2 rfl) (mw hZ hw 3 rfl) (by decide) (backOf (W := 0) (rm_str l Z a0 hw [] pb T770.heap n0 (Nat.le_trans Z0 Ex771.1) (CS.ext Ex771)) hZ (wq hw 3 rfl) (wq hw 2 rfl) (by decide) (by decide)) (g := (mkF m 7 #[vI pa, vI pb, vI pc, vI pd, vI pk, vR a770, .unset, .unset, .unset, .unset, .unset, .unset, .unset, .unset, .unset, .unset] [(.int pb)])) rfl (by rw [hml]; rfl) (argsL := [(.int pb)]) (rest := []) (lenOf pd_40 rfl) rfl (w0 rfl) (dq (dg dlw 4 rfl)) (fun _ _ => ⟨rfl, rfl, (by decide : 3 + 3 ≤ _), (by decide : 8 + 8 ≤ _)⟩)
  dsimp only [Pt.U, Pt.locs, Pt.cells, Pt.slots] at X772 l772 y772 z772 st772 hQ772
  subst l772 y772 z772
  obtain ⟨a772, m772, rfl, Nq772, E772, S772, ml772⟩ := hQ772
  have N772 := Fr.app N770 Nq772
  have Ex773 : Ext h0 T772.heap := Ex771.tr E772
  have Ex774 : Ext T770.heap T772.heap := E772
  refine R0_ st772 ?_
  show Rch p e below T772 (mkF m 10 #[vI pa, vI pb, vI pc, vI pd, vI pk, vR a770, .unset, .unset, .unset, .unset, .unset, .unset, .unset, .unset, .unset, .unset] [(.ref a772)]) _
  refine R1 (XS.astore X772.here hx rfl (dq (dg dlw 5 rfl)) rfl rfl (l' := #[vI pa, vI pb, vI pc, vI pd, vI pk, vR a770, vR a772, .unset, .unset, .unset, .unset, .unset, .unset, .unset, .unset, .unset]) rfl) ?_
  refine R1 (XS.iloadN X772.here hx rfl (dq (dg dlw 6 rfl)) rfl) ?_
  show Rch p e below T772 (mkF m 13 #[vI pa, vI pb, vI pc, vI pd, vI pk, vR a770, vR a772, .unset, .unset, .unset, .unset, .unset, .unset, .unset, .unset, .unset] [(.int pc)]) _
  obtain ⟨_, _, ⟨T775, L775, k775, n775⟩, -, X775, ⟨Lc775, hQ775, l775, y775, z775⟩, st775⟩ := Jvm.LawKit.callS X772 hx (y := mN73) hown (mw hZ hw 0 rfl) (mw hZ hw 1 rfl) (mw hZ hw 2 rfl) (mw hZ hw 3 rfl) (by decide) (backOf (W := 0) (rm_str l Z a0 hw [] pc T772.heap n0 (Nat.le_trans Z0 Ex773.1) (CS.ext Ex773)) hZ (wq hw 3 rfl) (wq hw 2 rfl) (by decide) (by decide)) (g := (mkF m 13 #[vI pa, vI pb, vI pc, vI pd, vI pk, vR a770, vR a772, .unset, .unset, .unset, .unset, .unset, .unset, .unset, .unset, .unset] [(.int pc)])) rfl (by rw [hml]; rfl) (argsL := [(.int pc)]) (rest := []) (lenOf pd_40 rfl) rfl (w0 rfl) (dq (dg dlw 7 rfl)) (fun _ _ => ⟨rfl, rfl, (by decide : 6 + 3 ≤ _), (by decide : 16 + 8 ≤ _)⟩)
  dsimp only [Pt.U, Pt.locs, Pt.cells, Pt.slots] at X775 l775 y775 z775 st775 hQ775
  subst l775 y775 z775
  obtain ⟨a775, m775, rfl, Nq775, E775, S775, ml775⟩ := hQ775
  have N775 := Fr.app N772 Nq775
  have Ex776 : Ext h0 T775.heap := Ex773.tr E775
  have Ex777 : Ext T770.heap T775.heap := Ex774.tr E775
  have Ex778 : Ext T772.heap T775.heap := E775
  refine R0_ st775 ?_
  show Rch p e below T775 (mkF m 16 #[vI pa, vI pb, vI pc, vI pd, vI pk, vR a770, vR a772, .unset, .unset, .unset, .unset, .unset, .unset, .unset, .unset, .unset] [(.ref a775)]) _
  refine R1 (XS.astore X775.here hx rfl (dq (dg dlw 8 rfl)) rfl rfl (l' := #[vI pa, vI pb, vI pc, vI pd, vI pk, vR a770, vR a772, vR a775, .unset, .unset, .unset, .unset, .unset, .unset, .unset, .unset]) rfl) ?_
  refine R1 (XS.iloadN X775.here hx rfl (dq (dg dlw 9 rfl)) rfl) ?_
  show Rch p e below T775 (mkF m 19 #[vI pa, vI pb, vI pc, vI pd, vI pk, vR a770, vR a772, vR a775, .unset, .unset, .unset, .unset, .unset, .unset, .unset, .unset] [(.int pd)]) _
  obtain ⟨_, _, ⟨T779, L779, k779, n779⟩, -, X779, ⟨Lc779, hQ779, l779, y779, z779⟩, st779⟩ := Jvm.LawKit.callS X775 hx (y := mN73) hown (mw hZ hw 0 rfl) (mw hZ hw 1 rfl) (mw hZ hw 2 rfl) (mw hZ hw 3 rfl) (by decide) (backOf (W := 0) (rm_str l Z a0 hw [] pd T775.heap n0 (Nat.le_trans Z0 Ex776.1) (CS.ext Ex776)) hZ (wq hw 3 rfl) (wq hw 2 rfl) (by decide) (by decide)) (g := (mkF m 19 #[vI pa, vI pb, vI pc, vI pd, vI pk, vR a770, vR a772, vR a775, .unset, .unset, .unset, .unset, .unset, .unset, .unset, .unset] [(.int pd)])) rfl (by rw [hml]; rfl) (argsL := [(.int pd)]) (rest := []) (lenOf pd_40 rfl) rfl (w0 rfl) (dq (dg dlw 10 rfl)) (fun _ _ => ⟨rfl, rfl, (by decide : 9 + 3 ≤ _), (by decide : 24 + 8 ≤ _)⟩)
  dsimp only [Pt.U, Pt.locs, Pt.cells, Pt.slots] at X779 l779 y779 z779 st779 hQ779
  subst l779 y779 z779
  obtain ⟨a779, m779, rfl, Nq779, E779, S779, ml779⟩ := hQ779
  have N779 := Fr.app N775 Nq779
  have Ex780 : Ext h0 T779.heap := Ex776.tr E779
  have Ex781 : Ext T770.heap T779.heap := Ex777.tr E779
  have Ex782 : Ext T772.heap T779.heap := Ex778.tr E779
  have Ex783 : Ext T775.heap T779.heap := E779
  refine R0_ st779 ?_
  show Rch p e below T779 (mkF m 22 #[vI pa, vI pb, vI pc, vI pd, vI pk, vR a770, vR a772, vR a775, .unset, .unset, .unset, .unset, .unset, .unset, .unset, .unset] [(.ref a779)]) _
  refine R1 (XS.astore X779.here hx rfl (dq (dg dlw 11 rfl)) rfl rfl (l' := #[vI pa, vI pb, vI pc, vI pd, vI pk, vR a770, vR a772, vR a775, vR a779, .unset, .unset, .unset, .unset, .unset, .unset, .unset]) rfl) ?_
  refine R1 (XS.iload X779.here hx rfl (dq (dg dlw 12 rfl)) rfl) ?_
  show Rch p e below T779 (mkF m 26 #[vI pa, vI pb, vI pc, vI pd, vI pk, vR a770, vR a772, vR a775, vR a779, .unset, .unset, .unset, .unset, .unset, .unset, .unset] [(.int pk)]) _
  refine R0_ (X779.ldcInt hx hown (mw hZ hw 30 rfl) (g := (mkF m 26 #[vI pa, vI pb, vI pc, vI pd, vI pk, vR a770, vR a772, vR a775, vR a779, .unset, .unset, .unset, .unset, .unset, .unset, .unset] [(.int pk)])) rfl (dq (dg dlw 13 rfl))) ?_
  show Rch p e below T779 (mkF m 28 #[vI pa, vI pb, vI pc, vI pd, vI pk, vR a770, vR a772, vR a775, vR a779, .unset, .unset, .unset, .unset, .unset, .unset, .unset] [(.int (2147483647 : Int32)), (.int pk)]) _
  refine R1 (XS.iand X779.here hx rfl (dq (dg dlw 14 rfl)) rfl) ?_
  refine R1 (XS.iconst X779.here hx rfl (dq (dg dlw 15 rfl)) ) ?_
  show Rch p e below T779 (mkF m 30 #[vI pa, vI pb, vI pc, vI pd, vI pk, vR a770, vR a772, vR a775, vR a779, .unset, .unset, .unset, .unset, .unset, .unset, .unset] [(.int (3 : Int32)), (.int (pk &&& (2147483647 : Int32)))]) _
  refine R1 (iremM X779 hx rfl (dq (dg dlw 16 rfl)) rfl (by decide)) ?_
  show Rch p e below T779 (mkF m 31 #[vI pa, vI pb, vI pc, vI pd, vI pk, vR a770, vR a772, vR a775, vR a779, .unset, .unset, .unset, .unset, .unset, .unset, .unset] [(.int ((pk &&& (2147483647 : Int32)) % (3 : Int32)))]) _
  refine R1 (XS.iconst X779.here hx rfl (dq (dg dlw 17 rfl)) ) ?_
  refine R1 (XS.iadd X779.here hx rfl (dq (dg dlw 18 rfl)) rfl) ?_
  show Rch p e below T779 (mkF m 33 #[vI pa, vI pb, vI pc, vI pd, vI pk, vR a770, vR a772, vR a775, vR a779, .unset, .unset, .unset, .unset, .unset, .unset, .unset] [(.int (((pk &&& (2147483647 : Int32)) % (3 : Int32)) + (1 : Int32)))]) _
  rcases law_n pk with hn | hn | hn
  · skip
    rw [hn]
    show Rch p e below T779 (mkF m 33 #[vI pa, vI pb, vI pc, vI pd, vI pk, vR a770, vR a772, vR a775, vR a779, .unset, .unset, .unset, .unset, .unset, .unset, .unset] [(.int (1 : Int32))]) _
    refine R1 (XS.istore X779.here hx rfl (dq (dg dlw 19 rfl)) rfl (l' := #[vI pa, vI pb, vI pc, vI pd, vI pk, vR a770, vR a772, vR a775, vR a779, vI (1 : Int32), .unset, .unset, .unset, .unset, .unset, .unset]) rfl) ?_
    show Rch p e below T779 (mkF m 35 #[vI pa, vI pb, vI pc, vI pd, vI pk, vR a770, vR a772, vR a775, vR a779, vI (1 : Int32), .unset, .unset, .unset, .unset, .unset, .unset] []) _
    obtain ⟨T784, h784, X784, e784, E784, A784, D784, -, st784⟩ := newO X779 hx hZ hown (wq hw 31 rfl) (wq hw 32 rfl) (wq hw 33 rfl) rfl (g := (mkF m 35 #[vI pa, vI pb, vI pc, vI pd, vI pk, vR a770, vR a772, vR a775, vR a779, vI (1 : Int32), .unset, .unset, .unset, .unset, .unset, .unset] [])) rfl (dq (dg dlw 20 rfl)) (by decide) (by decide)
    obtain ⟨a784, g784⟩ : ∃ z, z = T779.heap.size := ⟨_, rfl⟩
    rw [← g784] at A784 D784 st784
    have Ex785 : Ext h0 h784 := Ex780.tr E784
    have Ex786 : Ext T770.heap h784 := Ex781.tr E784
    have Ex789 : Ext T779.heap h784 := E784
    have le790 : h0.size ≤ a784 := Nat.le_trans Ex780.1 (Nat.le_of_eq g784.symm)
    have le791 : T770.heap.size ≤ a784 := Nat.le_trans Ex781.1 (Nat.le_of_eq g784.symm)
    have le794 : T779.heap.size ≤ a784 := Nat.le_of_eq g784.symm
    refine R0_ st784 ?_
    show Rch p e below T784 (mkF m 38 #[vI pa, vI pb, vI pc, vI pd, vI pk, vR a770, vR a772, vR a775, vR a779, vI (1 : Int32), .unset, .unset, .unset, .unset, .unset, .unset] [(.ref a784)]) _
    refine R1 (XS.dup X784.here hx rfl (dq (dg dlw 21 rfl)) rfl rfl) ?_
    show Rch p e below T784 (mkF m 39 #[vI pa, vI pb, vI pc, vI pd, vI pk, vR a770, vR a772, vR a775, vR a779, vI (1 : Int32), .unset, .unset, .unset, .unset, .unset, .unset] [(.ref a784), (.ref a784)]) _
    obtain ⟨_, _, ⟨T795, L795, k795, n795⟩, -, X795, ⟨Lc795, hQ795, l795, y795, z795⟩, st795⟩ := X784.specialBack hx (y := mN2) rfl hown (mw hZ hw 34 rfl) (mw hZ hw 35 rfl) (mw hZ hw 36 rfl) (by decide) (backOf (W := 1) (rm_alInit l Z a0 hw [] a784 da .null h784 n0 (Nat.le_trans Z0 Ex785.1) (Nat.le_trans Z0 le790) A784 ((D784 (Or.inl (wq hw 54 rfl)) (ty := (.array (.object "java/lang/Object"))) (by decide)).ext Ext.rf) ((D784 (Or.inl (wq hw 63 rfl)) (ty := .int) (by decide)).ext Ext.rf) ((D784 (Or.inl (wq hw 51 rfl)) (ty := .int) (by decide)).ext Ext.rf) (DS.ext Ex785) (DA.ext Ex785) hda) hZ (wq hw 36 rfl) (wq hw 33 rfl) (by decide) (by decide)) (g := (mkF m 39 #[vI pa, vI pb, vI pc, vI pd, vI pk, vR a770, vR a772, vR a775, vR a779, vI (1 : Int32), .unset, .unset, .unset, .unset, .unset, .unset] [(.ref a784), (.ref a784)])) rfl (by rw [hml]; rfl) (Steps.refl _) (a := a784) (argsL := []) (rest := [(.ref a784)]) (lenOf pd_0 rfl) rfl (w0 rfl) (dq (dg dlw 22 rfl)) (fun _ _ => ⟨rfl, e784, (by decide : 13 + 0 ≤ _), (by decide : 35 + 0 ≤ _)⟩)
    dsimp only [Pt.U, Pt.locs, Pt.cells, Pt.slots] at X795 l795 y795 z795 st795 hQ795
    subst l795 y795 z795
    obtain ⟨rfl, Nq795, K795, A795⟩ := hQ795
    have N795 := Fr.app N779 Nq795
    have Ex796 : Ext h0 T795.heap := extKeep Ex785 K795 (allS le790 all0)
    have Ex797 : Ext T770.heap T795.heap := extKeep Ex786 K795 (allS le791 all0)
    have Ex800 : Ext T779.heap T795.heap := extKeep Ex789 K795 (allS le794 all0)
    refine R2 st795 ?_
    show Rch p e below T795 (mkF m 42 #[vI pa, vI pb, vI pc, vI pd, vI pk, vR a770, vR a772, vR a775, vR a779, vI (1 : Int32), .unset, .unset, .unset, .unset, .unset, .unset] [(.ref a784)]) _
    refine R1 (XS.astore X795.here hx rfl (dq (dg dlw 23 rfl)) rfl rfl (l' := #[vI pa, vI pb, vI pc, vI pd, vI pk, vR a770, vR a772, vR a775, vR a779, vI (1 : Int32), vR a784, .unset, .unset, .unset, .unset, .unset]) rfl) ?_
    refine R1 (XS.aload X795.here hx rfl (dq (dg dlw 24 rfl)) rfl rfl) ?_
    refine R1 (XS.aload X795.here hx rfl (dq (dg dlw 25 rfl)) rfl rfl) ?_
    show Rch p e below T795 (mkF m 48 #[vI pa, vI pb, vI pc, vI pd, vI pk, vR a770, vR a772, vR a775, vR a779, vI (1 : Int32), vR a784, .unset, .unset, .unset, .unset, .unset] [(.ref a770), (.ref a784)]) _
    obtain ⟨cq801, kq801, q801a, q801b, q801c⟩ := isOf hZ rfl A795.1
    obtain ⟨_, _, ⟨T801, L801, k801, n801⟩, -, X801, ⟨Lc801, hQ801, l801, y801, z801⟩, st801⟩ := X795.virtualBack hx (y := mN7) (z := mN7) hown (mw hZ hw 55 rfl) (mw hZ hw 56 rfl) (notFace_of_selects (args := #[]) (mw hZ hw 58 rfl)) (mw hZ hw 58 rfl) (mw hZ hw 57 rfl) (by decide) (backOf (W := 0) (rm_addG l Z a0 hw [] a784 a770 da T795.heap n0 (Nat.le_trans Z0 Ex796.1) (Nat.le_trans Z0 le790) A795 (DS.ext Ex796) ((S770.ext Ex797).exa)) hZ (wq hw 59 rfl) (wq hw 33 rfl) (by decide) (by decide)) q801a q801c (g := (mkF m 48 #[vI pa, vI pb, vI pc, vI pd, vI pk, vR a770, vR a772, vR a775, vR a779, vI (1 : Int32), vR a784, .unset, .unset, .unset, .unset, .unset] [(.ref a770), (.ref a784)])) rfl (by rw [hml]; rfl) (Steps.refl _) (argsL := [(.ref a770)]) (rest := []) (lenOf pd_32 rfl) rfl (w0 rfl) (dq (dg dlw 26 rfl)) (fun _ _ => ⟨rfl, rfl, (by decide : 13 + 1 ≤ _), (by decide : 35 + 10 ≤ _)⟩)
    dsimp only [Pt.U, Pt.locs, Pt.cells, Pt.slots] at X801 l801 y801 z801 st801 hQ801
    subst l801 y801 z801
    obtain ⟨ea801, rfl, Nq801, K801, le801_, A801⟩ := hQ801
    have N801 := Fr.app N795 Nq801
    have Ex802 : Ext h0 T801.heap := extKeep Ex796 K801 (allS le790 all0)
    have Ex803 : Ext T770.heap T801.heap := extKeep Ex797 K801 (allS le791 all0)
    have Ex806 : Ext T779.heap T801.heap := extKeep Ex800 K801 (allS le794 all0)
    refine R2 st801 ?_
    show Rch p e below T801 (mkF m 51 #[vI pa, vI pb, vI pc, vI pd, vI pk, vR a770, vR a772, vR a775, vR a779, vI (1 : Int32), vR a784, .unset, .unset, .unset, .unset, .unset] [(.int (1 : Int32))]) _
    refine R1 (XT.pop X801.here hx rfl (dq (dg dlw 27 rfl)) rfl rfl) ?_
    refine R1 (XS.iload X801.here hx rfl (dq (dg dlw 28 rfl)) rfl) ?_
    refine R1 (XS.iconst X801.here hx rfl (dq (dg dlw 29 rfl)) ) ?_
    refine R1 (XS.icmpYes X801.here hx rfl (pc0 := 55) (pc' := 66) rfl (dq (dg dlw 30 rfl)) rfl (by decide : if_icmp.holds .lt (1 : Int32) (2 : Int32) = true) (by decide) (by decide)) ?_
    show Rch p e below T801 (mkF m 66 #[vI pa, vI pb, vI pc, vI pd, vI pk, vR a770, vR a772, vR a775, vR a779, vI (1 : Int32), vR a784, .unset, .unset, .unset, .unset, .unset] []) _
    refine R1 (XS.iload X801.here hx rfl (dq (dg dlw 35 rfl)) rfl) ?_
    refine R1 (XS.iconst X801.here hx rfl (dq (dg dlw 36 rfl)) ) ?_
    refine R1 (XS.icmpYes X801.here hx rfl (pc0 := 69) (pc' := 80) rfl (dq (dg dlw 37 rfl)) rfl (by decide : if_icmp.holds .lt (1 : Int32) (3 : Int32) = true) (by decide) (by decide)) ?_
    refine R1 (XS.iload X801.here hx rfl (dq (dg dlw 42 rfl)) rfl) ?_
    show Rch p e below T801 (mkF m 82 #[vI pa, vI pb, vI pc, vI pd, vI pk, vR a770, vR a772, vR a775, vR a779, vI (1 : Int32), vR a784, .unset, .unset, .unset, .unset, .unset] [(.int (1 : Int32))]) _
    refine R1 (XS.iconst X801.here hx rfl (dq (dg dlw 43 rfl)) ) ?_
    refine R1 (XS.icmpNo X801.here hx rfl (dq (dg dlw 44 rfl)) rfl (by decide : if_icmp.holds .ne (1 : Int32) (1 : Int32) = false)) ?_
    refine R1 (XS.aload X801.here hx rfl (dq (dg dlw 45 rfl)) rfl rfl) ?_
    refine R1 (XS.astore X801.here hx rfl (dq (dg dlw 46 rfl)) rfl rfl (l' := #[vI pa, vI pb, vI pc, vI pd, vI pk, vR a770, vR a772, vR a775, vR a779, vI (1 : Int32), vR a784, vR a770, .unset, .unset, .unset, .unset]) rfl) ?_
    show Rch p e below T801 (mkF m 90 #[vI pa, vI pb, vI pc, vI pd, vI pk, vR a770, vR a772, vR a775, vR a779, vI (1 : Int32), vR a784, vR a770, .unset, .unset, .unset, .unset] []) _
    refine R1 (XS.goto X801.here hx rfl (pc0 := 90) (pc' := 110) rfl (dq (dg dlw 47 rfl)) (by decide) (by decide)) ?_
    show Rch p e below T801 (mkF m 110 #[vI pa, vI pb, vI pc, vI pd, vI pk, vR a770, vR a772, vR a775, vR a779, vI (1 : Int32), vR a784, vR a770, .unset, .unset, .unset, .unset] []) _
    obtain ⟨T813, h813, X813, e813, E813, A813, D813, -, st813⟩ := newO X801 hx hZ hown (wq hw 86 rfl) (wq hw 87 rfl) (wq hw 88 rfl) rfl (g := (mkF m 110 #[vI pa, vI pb, vI pc, vI pd, vI pk, vR a770, vR a772, vR a775, vR a779, vI (1 : Int32), vR a784, vR a770, .unset, .unset, .unset, .unset] [])) rfl (dq (dg dlw 56 rfl)) (by decide) (by decide)
    obtain ⟨a813, g813⟩ : ∃ z, z = T801.heap.size := ⟨_, rfl⟩
    rw [← g813] at A813 D813 st813
    have Ex814 : Ext h0 h813 := Ex802.tr E813
    have Ex815 : Ext T770.heap h813 := Ex803.tr E813
    have Ex818 : Ext T779.heap h813 := Ex806.tr E813
    have Ex819 : Ext T801.heap h813 := E813
    have le820 : h0.size ≤ a813 := Nat.le_trans Ex802.1 (Nat.le_of_eq g813.symm)
    have le821 : T770.heap.size ≤ a813 := Nat.le_trans Ex803.1 (Nat.le_of_eq g813.symm)
    have le824 : T779.heap.size ≤ a813 := Nat.le_trans Ex806.1 (Nat.le_of_eq g813.symm)
    have le825 : T801.heap.size ≤ a813 := Nat.le_of_eq g813.symm
    refine R0_ st813 ?_
    show Rch p e below T813 (mkF m 113 #[vI pa, vI pb, vI pc, vI pd, vI pk, vR a770, vR a772, vR a775, vR a779, vI (1 : Int32), vR a784, vR a770, .unset, .unset, .unset, .unset] [(.ref a813)]) _
    refine R1 (XS.dup X813.here hx rfl (dq (dg dlw 57 rfl)) rfl rfl) ?_
    refine R1 (XS.aload X813.here hx rfl (dq (dg dlw 58 rfl)) rfl rfl) ?_
    refine R1 (XS.aload X813.here hx rfl (dq (dg dlw 59 rfl)) rfl rfl) ?_
    show Rch p e below T813 (mkF m 118 #[vI pa, vI pb, vI pc, vI pd, vI pk, vR a770, vR a772, vR a775, vR a779, vI (1 : Int32), vR a784, vR a770, .unset, .unset, .unset, .unset] [(.ref a770), (.ref a784), (.ref a813), (.ref a813)]) _
    obtain ⟨_, _, ⟨T826, L826, k826, n826⟩, -, X826, ⟨Lc826, hQ826, l826, y826, z826⟩, st826⟩ := X813.specialBack hx (y := mN58) rfl hown (mw hZ hw 89 rfl) (mw hZ hw 90 rfl) (mw hZ hw 91 rfl) (by decide) (backOf (W := 1) (rm_chI l Z a0 hw [] a813 a784 a770 h813 n0 (Nat.le_trans Z0 Ex814.1) (Nat.le_trans Z0 le820) A813 ((D813 (Or.inr (wq hw 99 rfl)) (ty := (.object "java/util/List")) (by decide)).ext Ext.rf) ((D813 (Or.inr (wq hw 101 rfl)) (ty := (.object "java/lang/String")) (by decide)).ext Ext.rf)) hZ (wq hw 91 rfl) (wq hw 88 rfl) (by decide) (by decide)) (g := (mkF m 118 #[vI pa, vI pb, vI pc, vI pd, vI pk, vR a770, vR a772, vR a775, vR a779, vI (1 : Int32), vR a784, vR a770, .unset, .unset, .unset, .unset] [(.ref a770), (.ref a784), (.ref a813), (.ref a813)])) rfl (by rw [hml]; rfl) (Steps.refl _) (a := a813) (argsL := [(.ref a784), (.ref a770)]) (rest := [(.ref a813)]) (lenOf pd_36 rfl) rfl (w0 rfl) (dq (dg dlw 60 rfl)) (fun _ _ => ⟨rfl, e813, (by decide : 15 + 0 ≤ _), (by decide : 47 + 0 ≤ _)⟩)
    dsimp only [Pt.U, Pt.locs, Pt.cells, Pt.slots] at X826 l826 y826 z826 st826 hQ826
    subst l826 y826 z826
    obtain ⟨rfl, Nq826, K826, G826⟩ := hQ826
    have N826 := Fr.app N801 Nq826
    have Ex827 : Ext h0 T826.heap := extKeep Ex814 K826 (allS le820 all0)
    have Ex828 : Ext T770.heap T826.heap := extKeep Ex815 K826 (allS le821 all0)
    have Ex831 : Ext T779.heap T826.heap := extKeep Ex818 K826 (allS le824 all0)
    have Ex832 : Ext T801.heap T826.heap := extKeep Ex819 K826 (allS le825 all0)
    refine R2 st826 ?_
    show Rch p e below T826 (mkF m 121 #[vI pa, vI pb, vI pc, vI pd, vI pk, vR a770, vR a772, vR a775, vR a779, vI (1 : Int32), vR a784, vR a770, .unset, .unset, .unset, .unset] [(.ref a813)]) _
    refine R1 (XS.astore X826.here hx rfl (dq (dg dlw 61 rfl)) rfl rfl (l' := #[vI pa, vI pb, vI pc, vI pd, vI pk, vR a770, vR a772, vR a775, vR a779, vI (1 : Int32), vR a784, vR a770, vR a813, .unset, .unset, .unset]) rfl) ?_
    refine R1 (XS.aload X826.here hx rfl (dq (dg dlw 62 rfl)) rfl rfl) ?_
    refine R1 (XS.aload X826.here hx rfl (dq (dg dlw 63 rfl)) rfl rfl) ?_
    show Rch p e below T826 (mkF m 127 #[vI pa, vI pb, vI pc, vI pd, vI pk, vR a770, vR a772, vR a775, vR a779, vI (1 : Int32), vR a784, vR a770, vR a813, .unset, .unset, .unset] [(.ref a813), (.ref a770)]) _
    obtain ⟨cq833, kq833, q833a, q833b, q833c⟩ := isOf hZ rfl G826.1
    obtain ⟨_, _, ⟨T833, L833, k833, n833⟩, -, X833, ⟨Lc833, hQ833, l833, y833, z833⟩, st833⟩ := X826.virtualBack hx (y := mN65) (z := mN65) hown (mw hZ hw 102 rfl) (mw hZ hw 103 rfl) (notFace_of_selects (args := #[]) (mw hZ hw 105 rfl)) (mw hZ hw 105 rfl) (mw hZ hw 104 rfl) (by decide) (backOf (W := 1) (rm_lastA l Z a0 hw [] a813 a784 a770 ea801 a770 10 (1 : Int32) [(.ref a770)] T826.heap n0 (Nat.le_trans Z0 Ex827.1) G826 (A801.ext Ex832) ⟨by decide, by decide⟩ rfl (by decide) ((S770.ext Ex828).exa)) hZ (wq hw 106 rfl) (wq hw 88 rfl) (by decide) (by decide)) q833a q833c (g := (mkF m 127 #[vI pa, vI pb, vI pc, vI pd, vI pk, vR a770, vR a772, vR a775, vR a779, vI (1 : Int32), vR a784, vR a770, vR a813, .unset, .unset, .unset] [(.ref a813), (.ref a770)])) rfl (by rw [hml]; rfl) (Steps.refl _) (argsL := []) (rest := [(.ref a770)]) (lenOf pd_35 rfl) rfl (w0 rfl) (dq (dg dlw 64 rfl)) (fun _ _ => ⟨rfl, rfl, (by decide : 15 + 0 ≤ _), (by decide : 47 + 0 ≤ _)⟩)
    dsimp only [Pt.U, Pt.locs, Pt.cells, Pt.slots] at X833 l833 y833 z833 st833 hQ833
    subst l833 y833 z833
    obtain ⟨rfl, Nq833, e833⟩ := hQ833
    have N833 := Fr.app N826 Nq833
    refine R2 st833 ?_
    show Rch p e below T833 (mkF m 130 #[vI pa, vI pb, vI pc, vI pd, vI pk, vR a770, vR a772, vR a775, vR a779, vI (1 : Int32), vR a784, vR a770, vR a813, .unset, .unset, .unset] [(.ref a770), (.ref a770)]) _
    obtain ⟨cq834, kq834, q834a, q834b, q834c⟩ := isOf hZ e833 (S770.ext Ex828).exa
    obtain ⟨_, _, ⟨T834, L834, k834, n834⟩, -, X834, ⟨Lc834, hQ834, l834, y834, z834⟩, st834⟩ := X833.virtualBack hx (y := mN68) (z := mN68) hown (mw hZ hw 138 rfl) (mw hZ hw 139 rfl) (notFace_of_selects (args := #[]) (mw hZ hw 141 rfl)) (mw hZ hw 141 rfl) (mw hZ hw 140 rfl) (by decide) (backOf (W := 0) (rm_eqP l Z a0 hw [] a770 T826.heap n0 (Nat.le_trans Z0 Ex827.1)) hZ (wq hw 142 rfl) (wq hw 6 rfl) (by decide) (by decide)) q834a q834c (g := (mkF m 130 #[vI pa, vI pb, vI pc, vI pd, vI pk, vR a770, vR a772, vR a775, vR a779, vI (1 : Int32), vR a784, vR a770, vR a813, .unset, .unset, .unset] [(.ref a770), (.ref a770)])) rfl (by rw [hml]; rfl) (Steps.refl _) (argsL := [(.ref a770)]) (rest := []) (lenOf pd_32 rfl) rfl (w0 rfl) (dq (dg dlw 65 rfl)) (fun _ _ => ⟨rfl, e833, (by decide : 15 + 0 ≤ _), (by decide : 47 + 0 ≤ _)⟩)
    dsimp only [Pt.U, Pt.locs, Pt.cells, Pt.slots] at X834 l834 y834 z834 st834 hQ834
    subst l834 y834 z834
    obtain ⟨rfl, Nq834, e834⟩ := hQ834
    have N834 := Fr.app N833 Nq834
    refine R2 st834 ?_
    show Rch p e below T834 (mkF m 133 #[vI pa, vI pb, vI pc, vI pd, vI pk, vR a770, vR a772, vR a775, vR a779, vI (1 : Int32), vR a784, vR a770, vR a813, .unset, .unset, .unset] [(.int (1 : Int32))]) _
    refine R1 (XS.istore X834.here hx rfl (dq (dg dlw 66 rfl)) rfl (l' := #[vI pa, vI pb, vI pc, vI pd, vI pk, vR a770, vR a772, vR a775, vR a779, vI (1 : Int32), vR a784, vR a770, vR a813, vI (1 : Int32), .unset, .unset]) rfl) ?_
    refine R1 (XS.aload X834.here hx rfl (dq (dg dlw 67 rfl)) rfl rfl) ?_
    refine R1 (XS.aload X834.here hx rfl (dq (dg dlw 68 rfl)) rfl rfl) ?_
    refine R1 (XS.aload X834.here hx rfl (dq (dg dlw 69 rfl)) rfl rfl) ?_
    show Rch p e below T834 (mkF m 141 #[vI pa, vI pb, vI pc, vI pd, vI pk, vR a770, vR a772, vR a775, vR a779, vI (1 : Int32), vR a784, vR a770, vR a813, vI (1 : Int32), .unset, .unset] [(.ref a779), (.ref a813), (.ref a779)]) _
    obtain ⟨cq835, kq835, q835a, q835b, q835c⟩ := isOf hZ e834 G826.1
    obtain ⟨_, _, ⟨T835, L835, k835, n835⟩, -, X835, ⟨Lc835, hQ835, l835, y835, z835⟩, st835⟩ := X834.virtualBack hx (y := mN69) (z := mN69) hown (mw hZ hw 143 rfl) (mw hZ hw 144 rfl) (notFace_of_selects (args := #[]) (mw hZ hw 146 rfl)) (mw hZ hw 146 rfl) (mw hZ hw 145 rfl) (by decide) (backOf (W := 1) (rm_th1 l Z a0 hw [] a813 a784 a770 a779 ea801 mr a770 m770 m779 T826.heap n0 (Nat.le_trans Z0 Ex827.1) G826 (A801.ext Ex832) MR (S770.ext Ex828) (S779.ext Ex831) ml770 ml779 (CS.ext Ex827) ((S770.ext Ex828).exa)) hZ (wq hw 147 rfl) (wq hw 88 rfl) (by decide) (by decide)) q835a q835c (g := (mkF m 141 #[vI pa, vI pb, vI pc, vI pd, vI pk, vR a770, vR a772, vR a775, vR a779, vI (1 : Int32), vR a784, vR a770, vR a813, vI (1 : Int32), .unset, .unset] [(.ref a779), (.ref a813), (.ref a779)])) rfl (by rw [hml]; rfl) (Steps.refl _) (argsL := [(.ref a779)]) (rest := [(.ref a779)]) (lenOf pd_41 rfl) rfl (w0 rfl) (dq (dg dlw 70 rfl)) (fun _ _ => ⟨rfl, e834, (by decide : 15 + 10 ≤ _), (by decide : 47 + 59 ≤ _)⟩)
    dsimp only [Pt.U, Pt.locs, Pt.cells, Pt.slots] at X835 l835 y835 z835 st835 hQ835
    subst l835 y835 z835
    obtain ⟨r835, t835, u835, rfl, Nq835, E835, G835, R835⟩ := hQ835
    have N835 := Fr.app N834 Nq835
    have Ex836 : Ext h0 T835.heap := Ex827.tr E835
    have Ex837 : Ext T770.heap T835.heap := Ex828.tr E835
    have Ex840 : Ext T779.heap T835.heap := Ex831.tr E835
    have Ex841 : Ext T801.heap T835.heap := Ex832.tr E835
    have Ex842 : Ext T826.heap T835.heap := E835
    refine R2 st835 ?_
    show Rch p e below T835 (mkF m 144 #[vI pa, vI pb, vI pc, vI pd, vI pk, vR a770, vR a772, vR a775, vR a779, vI (1 : Int32), vR a784, vR a770, vR a813, vI (1 : Int32), .unset, .unset] [(.ref r835), (.ref a779)]) _
    obtain ⟨cq843, kq843, q843a, q843b, q843c⟩ := isOf hZ rfl G835.1
    obtain ⟨_, _, ⟨T843, L843, k843, n843⟩, -, X843, ⟨Lc843, hQ843, l843, y843, z843⟩, st843⟩ := X835.virtualBack hx (y := mN65) (z := mN65) hown (mw hZ hw 102 rfl) (mw hZ hw 103 rfl) (notFace_of_selects (args := #[]) (mw hZ hw 105 rfl)) (mw hZ hw 105 rfl) (mw hZ hw 104 rfl) (by decide) (backOf (W := 1) (rm_last2 l Z a0 hw [] r835 t835 u835 a770 a779 em T835.heap n0 (Nat.le_trans Z0 Ex836.1) G835 R835 (EMS.ext Ex836) (EME.ext Ex836) ((S779.ext Ex840).exa)) hZ (wq hw 106 rfl) (wq hw 88 rfl) (by decide) (by decide)) q843a q843c (g := (mkF m 144 #[vI pa, vI pb, vI pc, vI pd, vI pk, vR a770, vR a772, vR a775, vR a779, vI (1 : Int32), vR a784, vR a770, vR a813, vI (1 : Int32), .unset, .unset] [(.ref r835), (.ref a779)])) rfl (by rw [hml]; rfl) (Steps.refl _) (argsL := []) (rest := [(.ref a779)]) (lenOf pd_35 rfl) rfl (w0 rfl) (dq (dg dlw 71 rfl)) (fun _ _ => ⟨rfl, rfl, (by decide : 25 + 0 ≤ _), (by decide : 106 + 0 ≤ _)⟩)
    dsimp only [Pt.U, Pt.locs, Pt.cells, Pt.slots] at X843 l843 y843 z843 st843 hQ843
    subst l843 y843 z843
    obtain ⟨rfl, Nq843, e843⟩ := hQ843
    have N843 := Fr.app N835 Nq843
    refine R2 st843 ?_
    show Rch p e below T843 (mkF m 147 #[vI pa, vI pb, vI pc, vI pd, vI pk, vR a770, vR a772, vR a775, vR a779, vI (1 : Int32), vR a784, vR a770, vR a813, vI (1 : Int32), .unset, .unset] [(.ref a779), (.ref a779)]) _
    obtain ⟨cq844, kq844, q844a, q844b, q844c⟩ := isOf hZ e843 (S779.ext Ex840).exa
    obtain ⟨_, _, ⟨T844, L844, k844, n844⟩, -, X844, ⟨Lc844, hQ844, l844, y844, z844⟩, st844⟩ := X843.virtualBack hx (y := mN68) (z := mN68) hown (mw hZ hw 138 rfl) (mw hZ hw 139 rfl) (notFace_of_selects (args := #[]) (mw hZ hw 141 rfl)) (mw hZ hw 141 rfl) (mw hZ hw 140 rfl) (by decide) (backOf (W := 0) (rm_eqP l Z a0 hw [] a779 T835.heap n0 (Nat.le_trans Z0 Ex836.1)) hZ (wq hw 142 rfl) (wq hw 6 rfl) (by decide) (by decide)) q844a q844c (g := (mkF m 147 #[vI pa, vI pb, vI pc, vI pd, vI pk, vR a770, vR a772, vR a775, vR a779, vI (1 : Int32), vR a784, vR a770, vR a813, vI (1 : Int32), .unset, .unset] [(.ref a779), (.ref a779)])) rfl (by rw [hml]; rfl) (Steps.refl _) (argsL := [(.ref a779)]) (rest := []) (lenOf pd_32 rfl) rfl (w0 rfl) (dq (dg dlw 72 rfl)) (fun _ _ => ⟨rfl, e843, (by decide : 25 + 0 ≤ _), (by decide : 106 + 0 ≤ _)⟩)
    dsimp only [Pt.U, Pt.locs, Pt.cells, Pt.slots] at X844 l844 y844 z844 st844 hQ844
    subst l844 y844 z844
    obtain ⟨rfl, Nq844, e844⟩ := hQ844
    have N844 := Fr.app N843 Nq844
    refine R2 st844 ?_
    show Rch p e below T844 (mkF m 150 #[vI pa, vI pb, vI pc, vI pd, vI pk, vR a770, vR a772, vR a775, vR a779, vI (1 : Int32), vR a784, vR a770, vR a813, vI (1 : Int32), .unset, .unset] [(.int (1 : Int32))]) _
    refine R1 (XS.istore X844.here hx rfl (dq (dg dlw 73 rfl)) rfl (l' := #[vI pa, vI pb, vI pc, vI pd, vI pk, vR a770, vR a772, vR a775, vR a779, vI (1 : Int32), vR a784, vR a770, vR a813, vI (1 : Int32), vI (1 : Int32), .unset]) rfl) ?_
    refine R1 (XS.aload X844.here hx rfl (dq (dg dlw 74 rfl)) rfl rfl) ?_
    refine R1 (XS.aload X844.here hx rfl (dq (dg dlw 75 rfl)) rfl rfl) ?_
    refine R1 (XS.aload X844.here hx rfl (dq (dg dlw 76 rfl)) rfl rfl) ?_
    show Rch p e below T844 (mkF m 158 #[vI pa, vI pb, vI pc, vI pd, vI pk, vR a770, vR a772, vR a775, vR a779, vI (1 : Int32), vR a784, vR a770, vR a813, vI (1 : Int32), vI (1 : Int32), .unset] [(.ref a813), (.ref a779), (.ref a770)]) _
    obtain ⟨_, _, ⟨T845, L845, k845, n845⟩, -, X845, ⟨Lc845, hQ845, l845, y845, z845⟩, st845⟩ := Jvm.LawKit.callS X844 hx (y := mN72) hown (mw hZ hw 378 rfl) (mw hZ hw 379 rfl) (mw hZ hw 88 rfl) (mw hZ hw 380 rfl) (by decide) (backOf (W := 1) (rm_of1 l Z a0 hw [] a813 a784 a770 a779 ea801 mr a770 m770 m779 T835.heap n0 (Nat.le_trans Z0 Ex836.1) (G826.ext Ex842) (A801.ext Ex841) MR (S770.ext Ex837) (S779.ext Ex840) ml770 ml779 (CS.ext Ex836) ((S770.ext Ex837).exa)) hZ (wq hw 380 rfl) (wq hw 88 rfl) (by decide) (by decide)) (g := (mkF m 158 #[vI pa, vI pb, vI pc, vI pd, vI pk, vR a770, vR a772, vR a775, vR a779, vI (1 : Int32), vR a784, vR a770, vR a813, vI (1 : Int32), vI (1 : Int32), .unset] [(.ref a813), (.ref a779), (.ref a770)])) rfl (by rw [hml]; rfl) (argsL := [(.ref a779), (.ref a813)]) (rest := [(.ref a770)]) (lenOf pd_42 rfl) rfl (w0 rfl) (dq (dg dlw 77 rfl)) (fun _ _ => ⟨rfl, e844, (by decide : 25 + 10 ≤ _), (by decide : 106 + 59 ≤ _)⟩)
    dsimp only [Pt.U, Pt.locs, Pt.cells, Pt.slots] at X845 l845 y845 z845 st845 hQ845
    subst l845 y845 z845
    obtain ⟨r845, t845, u845, rfl, Nq845, E845, G845, R845⟩ := hQ845
    have N845 := Fr.app N844 Nq845
    have Ex846 : Ext h0 T845.heap := Ex836.tr E845
    have Ex847 : Ext T770.heap T845.heap := Ex837.tr E845
    refine R0_ st845 ?_
    show Rch p e below T845 (mkF m 161 #[vI pa, vI pb, vI pc, vI pd, vI pk, vR a770, vR a772, vR a775, vR a779, vI (1 : Int32), vR a784, vR a770, vR a813, vI (1 : Int32), vI (1 : Int32), .unset] [(.ref r845), (.ref a770)]) _
    obtain ⟨cq854, kq854, q854a, q854b, q854c⟩ := isOf hZ rfl G845.1
    obtain ⟨_, _, ⟨T854, L854, k854, n854⟩, -, X854, ⟨Lc854, hQ854, l854, y854, z854⟩, st854⟩ := X845.virtualBack hx (y := mN65) (z := mN65) hown (mw hZ hw 102 rfl) (mw hZ hw 103 rfl) (notFace_of_selects (args := #[]) (mw hZ hw 105 rfl)) (mw hZ hw 105 rfl) (mw hZ hw 104 rfl) (by decide) (backOf (W := 1) (rm_last2 l Z a0 hw [] r845 t845 u845 a779 a770 em T845.heap n0 (Nat.le_trans Z0 Ex846.1) G845 R845 (EMS.ext Ex846) (EME.ext Ex846) ((S770.ext Ex847).exa)) hZ (wq hw 106 rfl) (wq hw 88 rfl) (by decide) (by decide)) q854a q854c (g := (mkF m 161 #[vI pa, vI pb, vI pc, vI pd, vI pk, vR a770, vR a772, vR a775, vR a779, vI (1 : Int32), vR a784, vR a770, vR a813, vI (1 : Int32), vI (1 : Int32), .unset] [(.ref r845), (.ref a770)])) rfl (by rw [hml]; rfl) (Steps.refl _) (argsL := []) (rest := [(.ref a770)]) (lenOf pd_35 rfl) rfl (w0 rfl) (dq (dg dlw 78 rfl)) (fun _ _ => ⟨rfl, rfl, (by decide : 35 + 0 ≤ _), (by decide : 165 + 0 ≤ _)⟩)
    dsimp only [Pt.U, Pt.locs, Pt.cells, Pt.slots] at X854 l854 y854 z854 st854 hQ854
    subst l854 y854 z854
    obtain ⟨rfl, Nq854, e854⟩ := hQ854
    have N854 := Fr.app N845 Nq854
    refine R2 st854 ?_
    show Rch p e below T854 (mkF m 164 #[vI pa, vI pb, vI pc, vI pd, vI pk, vR a770, vR a772, vR a775, vR a779, vI (1 : Int32), vR a784, vR a770, vR a813, vI (1 : Int32), vI (1 : Int32), .unset] [(.ref a770), (.ref a770)]) _
    obtain ⟨cq855, kq855, q855a, q855b, q855c⟩ := isOf hZ e854 (S770.ext Ex847).exa
    obtain ⟨_, _, ⟨T855, L855, k855, n855⟩, -, X855, ⟨Lc855, hQ855, l855, y855, z855⟩, st855⟩ := X854.virtualBack hx (y := mN68) (z := mN68) hown (mw hZ hw 138 rfl) (mw hZ hw 139 rfl) (notFace_of_selects (args := #[]) (mw hZ hw 141 rfl)) (mw hZ hw 141 rfl) (mw hZ hw 140 rfl) (by decide) (backOf (W := 0) (rm_eqP l Z a0 hw [] a770 T845.heap n0 (Nat.le_trans Z0 Ex846.1)) hZ (wq hw 142 rfl) (wq hw 6 rfl) (by decide) (by decide)) q855a q855c (g := (mkF m 164 #[vI pa, vI pb, vI pc, vI pd, vI pk, vR a770, vR a772, vR a775, vR a779, vI (1 : Int32), vR a784, vR a770, vR a813, vI (1 : Int32), vI (1 : Int32), .unset] [(.ref a770), (.ref a770)])) rfl (by rw [hml]; rfl) (Steps.refl _) (argsL := [(.ref a770)]) (rest := []) (lenOf pd_32 rfl) rfl (w0 rfl) (dq (dg dlw 79 rfl)) (fun _ _ => ⟨rfl, e854, (by decide : 35 + 0 ≤ _), (by decide : 165 + 0 ≤ _)⟩)
    dsimp only [Pt.U, Pt.locs, Pt.cells, Pt.slots] at X855 l855 y855 z855 st855 hQ855
    subst l855 y855 z855
    obtain ⟨rfl, Nq855, e855⟩ := hQ855
    have N855 := Fr.app N854 Nq855
    refine R2 st855 ?_
    show Rch p e below T855 (mkF m 167 #[vI pa, vI pb, vI pc, vI pd, vI pk, vR a770, vR a772, vR a775, vR a779, vI (1 : Int32), vR a784, vR a770, vR a813, vI (1 : Int32), vI (1 : Int32), .unset] [(.int (1 : Int32))]) _
    refine R1 (XS.istore X855.here hx rfl (dq (dg dlw 80 rfl)) rfl (l' := #[vI pa, vI pb, vI pc, vI pd, vI pk, vR a770, vR a772, vR a775, vR a779, vI (1 : Int32), vR a784, vR a770, vR a813, vI (1 : Int32), vI (1 : Int32), vI (1 : Int32)]) rfl) ?_
    refine R1 (XS.iload X855.here hx rfl (dq (dg dlw 81 rfl)) rfl) ?_
    refine R1 (XS.ifNo X855.here hx rfl (dq (dg dlw 82 rfl)) rfl (by decide : ifCond.holds .eq (1 : Int32) = false)) ?_
    refine R1 (XS.iload X855.here hx rfl (dq (dg dlw 83 rfl)) rfl) ?_
    show Rch p e below T855 (mkF m 176 #[vI pa, vI pb, vI pc, vI pd, vI pk, vR a770, vR a772, vR a775, vR a779, vI (1 : Int32), vR a784, vR a770, vR a813, vI (1 : Int32), vI (1 : Int32), vI (1 : Int32)] [(.int (1 : Int32))]) _
    refine R1 (XS.ifNo X855.here hx rfl (dq (dg dlw 84 rfl)) rfl (by decide : ifCond.holds .eq (1 : Int32) = false)) ?_
    refine R1 (XS.iload X855.here hx rfl (dq (dg dlw 85 rfl)) rfl) ?_
    refine R1 (XS.ifNo X855.here hx rfl (dq (dg dlw 86 rfl)) rfl (by decide : ifCond.holds .eq (1 : Int32) = false)) ?_
    refine R1 (XS.iconst X855.here hx rfl (dq (dg dlw 87 rfl)) ) ?_
    show Rch p e below T855 (mkF m 185 #[vI pa, vI pb, vI pc, vI pd, vI pk, vR a770, vR a772, vR a775, vR a779, vI (1 : Int32), vR a784, vR a770, vR a813, vI (1 : Int32), vI (1 : Int32), vI (1 : Int32)] [(.int (1 : Int32))]) _
    refine R1 (XS.goto X855.here hx rfl (pc0 := 185) (pc' := 189) rfl (dq (dg dlw 88 rfl)) (by decide) (by decide)) ?_
    show Rch p e below T855 (mkF m 189 #[vI pa, vI pb, vI pc, vI pd, vI pk, vR a770, vR a772, vR a775, vR a779, vI (1 : Int32), vR a784, vR a770, vR a813, vI (1 : Int32), vI (1 : Int32), vI (1 : Int32)] [(.int (1 : Int32))]) _
    exact Rch.fin (Q := Q_law Z pa pb pc pd pk da em mr h0 n0) X855 (v := some (.int (1 : Int32))) (fun h => by rw [Bd.returns] at h; cases h) (BodyLoose.notSynchronized Bd) (fun fs hr => retN X855 hx (t := .boolean) Bd.returns (by simp) (dq (dg dlw 89 rfl)) hr) (by rw [e855]; exact ⟨rfl, N855⟩) (by decide) (by decide)
  · skip
    rw [hn]
    show Rch p e below T779 (mkF m 33 #[vI pa, vI pb, vI pc, vI pd, vI pk, vR a770, vR a772, vR a775, vR a779, .unset, .unset, .unset, .unset, .unset, .unset, .unset] [(.int (2 : Int32))]) _
    refine R1 (XS.istore X779.here hx rfl (dq (dg dlw 19 rfl)) rfl (l' := #[vI pa, vI pb, vI pc, vI pd, vI pk, vR a770, vR a772, vR a775, vR a779, vI (2 : Int32), .unset, .unset, .unset, .unset, .unset, .unset]) rfl) ?_
    show Rch p e below T779 (mkF m 35 #[vI pa, vI pb, vI pc, vI pd, vI pk, vR a770, vR a772, vR a775, vR a779, vI (2 : Int32), .unset, .unset, .unset, .unset, .unset, .unset] []) _
    obtain ⟨T856, h856, X856, e856, E856, A856, D856, -, st856⟩ := newO X779 hx hZ hown (wq hw 31 rfl) (wq hw 32 rfl) (wq hw 33 rfl) rfl (g := (mkF m 35 #[vI pa, vI pb, vI pc, vI pd, vI pk, vR a770, vR a772, vR a775, vR a779, vI (2 : Int32), .unset, .unset, .unset, .unset, .unset, .unset] [])) rfl (dq (dg dlw 20 rfl)) (by decide) (by decide)
    obtain ⟨a856, g856⟩ : ∃ z, z = T779.heap.size := ⟨_, rfl⟩
    rw [← g856] at A856 D856 st856
    have Ex857 : Ext h0 h856 := Ex780.tr E856
    have Ex858 : Ext T770.heap h856 := Ex781.tr E856
    have Ex859 : Ext T772.heap h856 := Ex782.tr E856
    have Ex861 : Ext T779.heap h856 := E856
    have le862 : h0.size ≤ a856 := Nat.le_trans Ex780.1 (Nat.le_of_eq g856.symm)
    have le863 : T770.heap.size ≤ a856 := Nat.le_trans Ex781.1 (Nat.le_of_eq g856.symm)
    have le864 : T772.heap.size ≤ a856 := Nat.le_trans Ex782.1 (Nat.le_of_eq g856.symm)
    have le866 : T779.heap.size ≤ a856 := Nat.le_of_eq g856.symm
    refine R0_ st856 ?_
    show Rch p e below T856 (mkF m 38 #[vI pa, vI pb, vI pc, vI pd, vI pk, vR a770, vR a772, vR a775, vR a779, vI (2 : Int32), .unset, .unset, .unset, .unset, .unset, .unset] [(.ref a856)]) _
    refine R1 (XS.dup X856.here hx rfl (dq (dg dlw 21 rfl)) rfl rfl) ?_
    show Rch p e below T856 (mkF m 39 #[vI pa, vI pb, vI pc, vI pd, vI pk, vR a770, vR a772, vR a775, vR a779, vI (2 : Int32), .unset, .unset, .unset, .unset, .unset, .unset] [(.ref a856), (.ref a856)]) _
    obtain ⟨_, _, ⟨T867, L867, k867, n867⟩, -, X867, ⟨Lc867, hQ867, l867, y867, z867⟩, st867⟩ := X856.specialBack hx (y := mN2) rfl hown (mw hZ hw 34 rfl) (mw hZ hw 35 rfl) (mw hZ hw 36 rfl) (by decide) (backOf (W := 1) (rm_alInit l Z a0 hw [] a856 da .null h856 n0 (Nat.le_trans Z0 Ex857.1) (Nat.le_trans Z0 le862) A856 ((D856 (Or.inl (wq hw 54 rfl)) (ty := (.array (.object "java/lang/Object"))) (by decide)).ext Ext.rf) ((D856 (Or.inl (wq hw 63 rfl)) (ty := .int) (by decide)).ext Ext.rf) ((D856 (Or.inl (wq hw 51 rfl)) (ty := .int) (by decide)).ext Ext.rf) (DS.ext Ex857) (DA.ext Ex857) hda) hZ (wq hw 36 rfl) (wq hw 33 rfl) (by decide) (by decide)) (g := (mkF m 39 #[vI pa, vI pb, vI pc, vI pd, vI pk, vR a770, vR a772, vR a775, vR a779, vI (2 : Int32), .unset, .unset, .unset, .unset, .unset, .unset] [(.ref a856), (.ref a856)])) rfl (by rw [hml]; rfl) (Steps.refl _) (a := a856) (argsL := []) (rest := [(.ref a856)]) (lenOf pd_0 rfl) rfl (w0 rfl) (dq (dg dlw 22 rfl)) (fun _ _ => ⟨rfl, e856, (by decide : 13 + 0 ≤ _), (by decide : 35 + 0 ≤ _)⟩)
    dsimp only [Pt.U, Pt.locs, Pt.cells, Pt.slots] at X867 l867 y867 z867 st867 hQ867
    subst l867 y867 z867
    obtain ⟨rfl, Nq867, K867, A867⟩ := hQ867
    have N867 := Fr.app N779 Nq867
    have Ex868 : Ext h0 T867.heap := extKeep Ex857 K867 (allS le862 all0)
    have Ex869 : Ext T770.heap T867.heap := extKeep Ex858 K867 (allS le863 all0)
    have Ex870 : Ext T772.heap T867.heap := extKeep Ex859 K867 (allS le864 all0)
    have Ex872 : Ext T779.heap T867.heap := extKeep Ex861 K867 (allS le866 all0)
    refine R2 st867 ?_
    show Rch p e below T867 (mkF m 42 #[vI pa, vI pb, vI pc, vI pd, vI pk, vR a770, vR a772, vR a775, vR a779, vI (2 : Int32), .unset, .unset, .unset, .unset, .unset, .unset] [(.ref a856)]) _
    refine R1 (XS.astore X867.here hx rfl (dq (dg dlw 23 rfl)) rfl rfl (l' := #[vI pa, vI pb, vI pc, vI pd, vI pk, vR a770, vR a772, vR a775, vR a779, vI (2 : Int32), vR a856, .unset, .unset, .unset, .unset, .unset]) rfl) ?_
    refine R1 (XS.aload X867.here hx rfl (dq (dg dlw 24 rfl)) rfl rfl) ?_
    refine R1 (XS.aload X867.here hx rfl (dq (dg dlw 25 rfl)) rfl rfl) ?_
    show Rch p e below T867 (mkF m 48 #[vI pa, vI pb, vI pc, vI pd, vI pk, vR a770, vR a772, vR a775, vR a779, vI (2 : Int32), vR a856, .unset, .unset, .unset, .unset, .unset] [(.ref a770), (.ref a856)]) _
    obtain ⟨cq873, kq873, q873a, q873b, q873c⟩ := isOf hZ rfl A867.1
    obtain ⟨_, _, ⟨T873, L873, k873, n873⟩, -, X873, ⟨Lc873, hQ873, l873, y873, z873⟩, st873⟩ := X867.virtualBack hx (y := mN7) (z := mN7) hown (mw hZ hw 55 rfl) (mw hZ hw 56 rfl) (notFace_of_selects (args := #[]) (mw hZ hw 58 rfl)) (mw hZ hw 58 rfl) (mw hZ hw 57 rfl) (by decide) (backOf (W := 0) (rm_addG l Z a0 hw [] a856 a770 da T867.heap n0 (Nat.le_trans Z0 Ex868.1) (Nat.le_trans Z0 le862) A867 (DS.ext Ex868) ((S770.ext Ex869).exa)) hZ (wq hw 59 rfl) (wq hw 33 rfl) (by decide) (by decide)) q873a q873c (g := (mkF m 48 #[vI pa, vI pb, vI pc, vI pd, vI pk, vR a770, vR a772, vR a775, vR a779, vI (2 : Int32), vR a856, .unset, .unset, .unset, .unset, .unset] [(.ref a770), (.ref a856)])) rfl (by rw [hml]; rfl) (Steps.refl _) (argsL := [(.ref a770)]) (rest := []) (lenOf pd_32 rfl) rfl (w0 rfl) (dq (dg dlw 26 rfl)) (fun _ _ => ⟨rfl, rfl, (by decide : 13 + 1 ≤ _), (by decide : 35 + 10 ≤ _)⟩)
    dsimp only [Pt.U, Pt.locs, Pt.cells, Pt.slots] at X873 l873 y873 z873 st873 hQ873
    subst l873 y873 z873
    obtain ⟨ea873, rfl, Nq873, K873, le873_, A873⟩ := hQ873
    have N873 := Fr.app N867 Nq873
    have Ex874 : Ext h0 T873.heap := extKeep Ex868 K873 (allS le862 all0)
    have Ex875 : Ext T770.heap T873.heap := extKeep Ex869 K873 (allS le863 all0)
    have Ex876 : Ext T772.heap T873.heap := extKeep Ex870 K873 (allS le864 all0)
    have Ex878 : Ext T779.heap T873.heap := extKeep Ex872 K873 (allS le866 all0)
    refine R2 st873 ?_
    show Rch p e below T873 (mkF m 51 #[vI pa, vI pb, vI pc, vI pd, vI pk, vR a770, vR a772, vR a775, vR a779, vI (2 : Int32), vR a856, .unset, .unset, .unset, .unset, .unset] [(.int (1 : Int32))]) _
    have le879 : h0.size ≤ ea873 := Nat.le_trans Ex868.1 le873_
    have le880 : T770.heap.size ≤ ea873 := Nat.le_trans Ex869.1 le873_
    have le881 : T772.heap.size ≤ ea873 := Nat.le_trans Ex870.1 le873_
    have le883 : T779.heap.size ≤ ea873 := Nat.le_trans Ex872.1 le873_
    refine R1 (XT.pop X873.here hx rfl (dq (dg dlw 27 rfl)) rfl rfl) ?_
    refine R1 (XS.iload X873.here hx rfl (dq (dg dlw 28 rfl)) rfl) ?_
    refine R1 (XS.iconst X873.here hx rfl (dq (dg dlw 29 rfl)) ) ?_
    refine R1 (XS.icmpNo X873.here hx rfl (dq (dg dlw 30 rfl)) rfl (by decide : if_icmp.holds .lt (2 : Int32) (2 : Int32) = false)) ?_
    show Rch p e below T873 (mkF m 58 #[vI pa, vI pb, vI pc, vI pd, vI pk, vR a770, vR a772, vR a775, vR a779, vI (2 : Int32), vR a856, .unset, .unset, .unset, .unset, .unset] []) _
    refine R1 (XS.aload X873.here hx rfl (dq (dg dlw 31 rfl)) rfl rfl) ?_
    refine R1 (XS.aload X873.here hx rfl (dq (dg dlw 32 rfl)) rfl rfl) ?_
    show Rch p e below T873 (mkF m 62 #[vI pa, vI pb, vI pc, vI pd, vI pk, vR a770, vR a772, vR a775, vR a779, vI (2 : Int32), vR a856, .unset, .unset, .unset, .unset, .unset] [(.ref a772), (.ref a856)]) _
    obtain ⟨cq885, kq885, q885a, q885b, q885c⟩ := isOf hZ rfl A873.1
    obtain ⟨_, _, ⟨T885, L885, k885, n885⟩, -, X885, ⟨Lc885, hQ885, l885, y885, z885⟩, st885⟩ := X873.virtualBack hx (y := mN7) (z := mN7) hown (mw hZ hw 55 rfl) (mw hZ hw 56 rfl) (notFace_of_selects (args := #[]) (mw hZ hw 58 rfl)) (mw hZ hw 58 rfl) (mw hZ hw 57 rfl) (by decide) (backOf (W := 0) (rm_addR l Z a0 hw [] a856 a772 ea873 10 (1 : Int32) [(.ref a770)] T873.heap n0 (Nat.le_trans Z0 Ex874.1) (Nat.le_trans Z0 le862) (Nat.le_trans Z0 le879) A873 ((S772.ext Ex876).exa) (by decide) ⟨by decide, by decide⟩ rfl) hZ (wq hw 59 rfl) (wq hw 33 rfl) (by decide) (by decide)) q885a q885c (g := (mkF m 62 #[vI pa, vI pb, vI pc, vI pd, vI pk, vR a770, vR a772, vR a775, vR a779, vI (2 : Int32), vR a856, .unset, .unset, .unset, .unset, .unset] [(.ref a772), (.ref a856)])) rfl (by rw [hml]; rfl) (Steps.refl _) (argsL := [(.ref a772)]) (rest := []) (lenOf pd_32 rfl) rfl (w0 rfl) (dq (dg dlw 33 rfl)) (fun _ _ => ⟨rfl, rfl, (by decide : 14 + 0 ≤ _), (by decide : 45 + 0 ≤ _)⟩)
    dsimp only [Pt.U, Pt.locs, Pt.cells, Pt.slots] at X885 l885 y885 z885 st885 hQ885
    subst l885 y885 z885
    obtain ⟨rfl, Nq885, K885, A885⟩ := hQ885
    have N885 := Fr.app N873 Nq885
    have Ex886 : Ext h0 T885.heap := extKeep Ex874 K885 (allS le862 (allS le879 all0))
    have Ex887 : Ext T770.heap T885.heap := extKeep Ex875 K885 (allS le863 (allS le880 all0))
    have Ex888 : Ext T772.heap T885.heap := extKeep Ex876 K885 (allS le864 (allS le881 all0))
    have Ex890 : Ext T779.heap T885.heap := extKeep Ex878 K885 (allS le866 (allS le883 all0))
    refine R2 st885 ?_
    show Rch p e below T885 (mkF m 65 #[vI pa, vI pb, vI pc, vI pd, vI pk, vR a770, vR a772, vR a775, vR a779, vI (2 : Int32), vR a856, .unset, .unset, .unset, .unset, .unset] [(.int (1 : Int32))]) _
    have AL885 : Al Z T885.heap a856 ea873 (10 : Int32) (2 : Int32) [(.ref a770), (.ref a772)] := by have q := A885; rw [show (1 : Int32) + (1 : Int32) = (2 : Int32) from by decide] at q; exact q
    refine R1 (XT.pop X885.here hx rfl (dq (dg dlw 34 rfl)) rfl rfl) ?_
    refine R1 (XS.iload X885.here hx rfl (dq (dg dlw 35 rfl)) rfl) ?_
    refine R1 (XS.iconst X885.here hx rfl (dq (dg dlw 36 rfl)) ) ?_
    refine R1 (XS.icmpYes X885.here hx rfl (pc0 := 69) (pc' := 80) rfl (dq (dg dlw 37 rfl)) rfl (by decide : if_icmp.holds .lt (2 : Int32) (3 : Int32) = true) (by decide) (by decide)) ?_
    show Rch p e below T885 (mkF m 80 #[vI pa, vI pb, vI pc, vI pd, vI pk, vR a770, vR a772, vR a775, vR a779, vI (2 : Int32), vR a856, .unset, .unset, .unset, .unset, .unset] []) _
    refine R1 (XS.iload X885.here hx rfl (dq (dg dlw 42 rfl)) rfl) ?_
    refine R1 (XS.iconst X885.here hx rfl (dq (dg dlw 43 rfl)) ) ?_
    refine R1 (XS.icmpYes X885.here hx rfl (pc0 := 83) (pc' := 93) rfl (dq (dg dlw 44 rfl)) rfl (by decide : if_icmp.holds .ne (2 : Int32) (1 : Int32) = true) (by decide) (by decide)) ?_
    refine R1 (XS.iload X885.here hx rfl (dq (dg dlw 48 rfl)) rfl) ?_
    show Rch p e below T885 (mkF m 95 #[vI pa, vI pb, vI pc, vI pd, vI pk, vR a770, vR a772, vR a775, vR a779, vI (2 : Int32), vR a856, .unset, .unset, .unset, .unset, .unset] [(.int (2 : Int32))]) _
    refine R1 (XS.iconst X885.here hx rfl (dq (dg dlw 49 rfl)) ) ?_
    refine R1 (XS.icmpNo X885.here hx rfl (dq (dg dlw 50 rfl)) rfl (by decide : if_icmp.holds .ne (2 : Int32) (2 : Int32) = false)) ?_
    refine R1 (XS.aload X885.here hx rfl (dq (dg dlw 51 rfl)) rfl rfl) ?_
    refine R1 (XS.astore X885.here hx rfl (dq (dg dlw 52 rfl)) rfl rfl (l' := #[vI pa, vI pb, vI pc, vI pd, vI pk, vR a770, vR a772, vR a775, vR a779, vI (2 : Int32), vR a856, vR a772, .unset, .unset, .unset, .unset]) rfl) ?_
    show Rch p e below T885 (mkF m 103 #[vI pa, vI pb, vI pc, vI pd, vI pk, vR a770, vR a772, vR a775, vR a779, vI (2 : Int32), vR a856, vR a772, .unset, .unset, .unset, .unset] []) _
    refine R1 (XS.goto X885.here hx rfl (pc0 := 103) (pc' := 110) rfl (dq (dg dlw 53 rfl)) (by decide) (by decide)) ?_
    show Rch p e below T885 (mkF m 110 #[vI pa, vI pb, vI pc, vI pd, vI pk, vR a770, vR a772, vR a775, vR a779, vI (2 : Int32), vR a856, vR a772, .unset, .unset, .unset, .unset] []) _
    obtain ⟨T891, h891, X891, e891, E891, A891, D891, -, st891⟩ := newO X885 hx hZ hown (wq hw 86 rfl) (wq hw 87 rfl) (wq hw 88 rfl) rfl (g := (mkF m 110 #[vI pa, vI pb, vI pc, vI pd, vI pk, vR a770, vR a772, vR a775, vR a779, vI (2 : Int32), vR a856, vR a772, .unset, .unset, .unset, .unset] [])) rfl (dq (dg dlw 56 rfl)) (by decide) (by decide)
    obtain ⟨a891, g891⟩ : ∃ z, z = T885.heap.size := ⟨_, rfl⟩
    rw [← g891] at A891 D891 st891
    have Ex892 : Ext h0 h891 := Ex886.tr E891
    have Ex893 : Ext T770.heap h891 := Ex887.tr E891
    have Ex894 : Ext T772.heap h891 := Ex888.tr E891
    have Ex896 : Ext T779.heap h891 := Ex890.tr E891
    have Ex897 : Ext T885.heap h891 := E891
    have le898 : h0.size ≤ a891 := Nat.le_trans Ex886.1 (Nat.le_of_eq g891.symm)
    have le899 : T770.heap.size ≤ a891 := Nat.le_trans Ex887.1 (Nat.le_of_eq g891.symm)
    have le900 : T772.heap.size ≤ a891 := Nat.le_trans Ex888.1 (Nat.le_of_eq g891.symm)
    have le902 : T779.heap.size ≤ a891 := Nat.le_trans Ex890.1 (Nat.le_of_eq g891.symm)
    have le903 : T885.heap.size ≤ a891 := Nat.le_of_eq g891.symm
    refine R0_ st891 ?_
    show Rch p e below T891 (mkF m 113 #[vI pa, vI pb, vI pc, vI pd, vI pk, vR a770, vR a772, vR a775, vR a779, vI (2 : Int32), vR a856, vR a772, .unset, .unset, .unset, .unset] [(.ref a891)]) _
    refine R1 (XS.dup X891.here hx rfl (dq (dg dlw 57 rfl)) rfl rfl) ?_
    refine R1 (XS.aload X891.here hx rfl (dq (dg dlw 58 rfl)) rfl rfl) ?_
    refine R1 (XS.aload X891.here hx rfl (dq (dg dlw 59 rfl)) rfl rfl) ?_
    show Rch p e below T891 (mkF m 118 #[vI pa, vI pb, vI pc, vI pd, vI pk, vR a770, vR a772, vR a775, vR a779, vI (2 : Int32), vR a856, vR a772, .unset, .unset, .unset, .unset] [(.ref a770), (.ref a856), (.ref a891), (.ref a891)]) _
    obtain ⟨_, _, ⟨T904, L904, k904, n904⟩, -, X904, ⟨Lc904, hQ904, l904, y904, z904⟩, st904⟩ := X891.specialBack hx (y := mN58) rfl hown (mw hZ hw 89 rfl) (mw hZ hw 90 rfl) (mw hZ hw 91 rfl) (by decide) (backOf (W := 1) (rm_chI l Z a0 hw [] a891 a856 a770 h891 n0 (Nat.le_trans Z0 Ex892.1) (Nat.le_trans Z0 le898) A891 ((D891 (Or.inr (wq hw 99 rfl)) (ty := (.object "java/util/List")) (by decide)).ext Ext.rf) ((D891 (Or.inr (wq hw 101 rfl)) (ty := (.object "java/lang/String")) (by decide)).ext Ext.rf)) hZ (wq hw 91 rfl) (wq hw 88 rfl) (by decide) (by decide)) (g := (mkF m 118 #[vI pa, vI pb, vI pc, vI pd, vI pk, vR a770, vR a772, vR a775, vR a779, vI (2 : Int32), vR a856, vR a772, .unset, .unset, .unset, .unset] [(.ref a770), (.ref a856), (.ref a891), (.ref a891)])) rfl (by rw [hml]; rfl) (Steps.refl _) (a := a891) (argsL := [(.ref a856), (.ref a770)]) (rest := [(.ref a891)]) (lenOf pd_36 rfl) rfl (w0 rfl) (dq (dg dlw 60 rfl)) (fun _ _ => ⟨rfl, e891, (by decide : 15 + 0 ≤ _), (by decide : 47 + 0 ≤ _)⟩)
    dsimp only [Pt.U, Pt.locs, Pt.cells, Pt.slots] at X904 l904 y904 z904 st904 hQ904
    subst l904 y904 z904
    obtain ⟨rfl, Nq904, K904, G904⟩ := hQ904
    have N904 := Fr.app N885 Nq904
    have Ex905 : Ext h0 T904.heap := extKeep Ex892 K904 (allS le898 all0)
    have Ex906 : Ext T770.heap T904.heap := extKeep Ex893 K904 (allS le899 all0)
    have Ex907 : Ext T772.heap T904.heap := extKeep Ex894 K904 (allS le900 all0)
    have Ex909 : Ext T779.heap T904.heap := extKeep Ex896 K904 (allS le902 all0)
    have Ex910 : Ext T885.heap T904.heap := extKeep Ex897 K904 (allS le903 all0)
    refine R2 st904 ?_
    show Rch p e below T904 (mkF m 121 #[vI pa, vI pb, vI pc, vI pd, vI pk, vR a770, vR a772, vR a775, vR a779, vI (2 : Int32), vR a856, vR a772, .unset, .unset, .unset, .unset] [(.ref a891)]) _
    refine R1 (XS.astore X904.here hx rfl (dq (dg dlw 61 rfl)) rfl rfl (l' := #[vI pa, vI pb, vI pc, vI pd, vI pk, vR a770, vR a772, vR a775, vR a779, vI (2 : Int32), vR a856, vR a772, vR a891, .unset, .unset, .unset]) rfl) ?_
    refine R1 (XS.aload X904.here hx rfl (dq (dg dlw 62 rfl)) rfl rfl) ?_
    refine R1 (XS.aload X904.here hx rfl (dq (dg dlw 63 rfl)) rfl rfl) ?_
    show Rch p e below T904 (mkF m 127 #[vI pa, vI pb, vI pc, vI pd, vI pk, vR a770, vR a772, vR a775, vR a779, vI (2 : Int32), vR a856, vR a772, vR a891, .unset, .unset, .unset] [(.ref a891), (.ref a772)]) _
    obtain ⟨cq911, kq911, q911a, q911b, q911c⟩ := isOf hZ rfl G904.1
    obtain ⟨_, _, ⟨T911, L911, k911, n911⟩, -, X911, ⟨Lc911, hQ911, l911, y911, z911⟩, st911⟩ := X904.virtualBack hx (y := mN65) (z := mN65) hown (mw hZ hw 102 rfl) (mw hZ hw 103 rfl) (notFace_of_selects (args := #[]) (mw hZ hw 105 rfl)) (mw hZ hw 105 rfl) (mw hZ hw 104 rfl) (by decide) (backOf (W := 1) (rm_lastA l Z a0 hw [] a891 a856 a770 ea873 a772 10 (2 : Int32) [(.ref a770), (.ref a772)] T904.heap n0 (Nat.le_trans Z0 Ex905.1) G904 (AL885.ext Ex910) ⟨by decide, by decide⟩ rfl (by decide) ((S772.ext Ex907).exa)) hZ (wq hw 106 rfl) (wq hw 88 rfl) (by decide) (by decide)) q911a q911c (g := (mkF m 127 #[vI pa, vI pb, vI pc, vI pd, vI pk, vR a770, vR a772, vR a775, vR a779, vI (2 : Int32), vR a856, vR a772, vR a891, .unset, .unset, .unset] [(.ref a891), (.ref a772)])) rfl (by rw [hml]; rfl) (Steps.refl _) (argsL := []) (rest := [(.ref a772)]) (lenOf pd_35 rfl) rfl (w0 rfl) (dq (dg dlw 64 rfl)) (fun _ _ => ⟨rfl, rfl, (by decide : 15 + 0 ≤ _), (by decide : 47 + 0 ≤ _)⟩)
    dsimp only [Pt.U, Pt.locs, Pt.cells, Pt.slots] at X911 l911 y911 z911 st911 hQ911
    subst l911 y911 z911
    obtain ⟨rfl, Nq911, e911⟩ := hQ911
    have N911 := Fr.app N904 Nq911
    refine R2 st911 ?_
    show Rch p e below T911 (mkF m 130 #[vI pa, vI pb, vI pc, vI pd, vI pk, vR a770, vR a772, vR a775, vR a779, vI (2 : Int32), vR a856, vR a772, vR a891, .unset, .unset, .unset] [(.ref a772), (.ref a772)]) _
    obtain ⟨cq912, kq912, q912a, q912b, q912c⟩ := isOf hZ e911 (S772.ext Ex907).exa
    obtain ⟨_, _, ⟨T912, L912, k912, n912⟩, -, X912, ⟨Lc912, hQ912, l912, y912, z912⟩, st912⟩ := X911.virtualBack hx (y := mN68) (z := mN68) hown (mw hZ hw 138 rfl) (mw hZ hw 139 rfl) (notFace_of_selects (args := #[]) (mw hZ hw 141 rfl)) (mw hZ hw 141 rfl) (mw hZ hw 140 rfl) (by decide) (backOf (W := 0) (rm_eqP l Z a0 hw [] a772 T904.heap n0 (Nat.le_trans Z0 Ex905.1)) hZ (wq hw 142 rfl) (wq hw 6 rfl) (by decide) (by decide)) q912a q912c (g := (mkF m 130 #[vI pa, vI pb, vI pc, vI pd, vI pk, vR a770, vR a772, vR a775, vR a779, vI (2 : Int32), vR a856, vR a772, vR a891, .unset, .unset, .unset] [(.ref a772), (.ref a772)])) rfl (by rw [hml]; rfl) (Steps.refl _) (argsL := [(.ref a772)]) (rest := []) (lenOf pd_32 rfl) rfl (w0 rfl) (dq (dg dlw 65 rfl)) (fun _ _ => ⟨rfl, e911, (by decide : 15 + 0 ≤ _), (by decide : 47 + 0 ≤ _)⟩)
    dsimp only [Pt.U, Pt.locs, Pt.cells, Pt.slots] at X912 l912 y912 z912 st912 hQ912
    subst l912 y912 z912
    obtain ⟨rfl, Nq912, e912⟩ := hQ912
    have N912 := Fr.app N911 Nq912
    refine R2 st912 ?_
    show Rch p e below T912 (mkF m 133 #[vI pa, vI pb, vI pc, vI pd, vI pk, vR a770, vR a772, vR a775, vR a779, vI (2 : Int32), vR a856, vR a772, vR a891, .unset, .unset, .unset] [(.int (1 : Int32))]) _
    refine R1 (XS.istore X912.here hx rfl (dq (dg dlw 66 rfl)) rfl (l' := #[vI pa, vI pb, vI pc, vI pd, vI pk, vR a770, vR a772, vR a775, vR a779, vI (2 : Int32), vR a856, vR a772, vR a891, vI (1 : Int32), .unset, .unset]) rfl) ?_
    refine R1 (XS.aload X912.here hx rfl (dq (dg dlw 67 rfl)) rfl rfl) ?_
    refine R1 (XS.aload X912.here hx rfl (dq (dg dlw 68 rfl)) rfl rfl) ?_
    refine R1 (XS.aload X912.here hx rfl (dq (dg dlw 69 rfl)) rfl rfl) ?_
    show Rch p e below T912 (mkF m 141 #[vI pa, vI pb, vI pc, vI pd, vI pk, vR a770, vR a772, vR a775, vR a779, vI (2 : Int32), vR a856, vR a772, vR a891, vI (1 : Int32), .unset, .unset] [(.ref a779), (.ref a891), (.ref a779)]) _
    obtain ⟨cq913, kq913, q913a, q913b, q913c⟩ := isOf hZ e912 G904.1
    obtain ⟨_, _, ⟨T913, L913, k913, n913⟩, -, X913, ⟨Lc913, hQ913, l913, y913, z913⟩, st913⟩ := X912.virtualBack hx (y := mN69) (z := mN69) hown (mw hZ hw 143 rfl) (mw hZ hw 144 rfl) (notFace_of_selects (args := #[]) (mw hZ hw 146 rfl)) (mw hZ hw 146 rfl) (mw hZ hw 145 rfl) (by decide) (backOf (W := 1) (rm_th2 l Z a0 hw [] a891 a856 a770 a779 ea873 mr a770 a772 m770 m779 T904.heap n0 (Nat.le_trans Z0 Ex905.1) G904 (AL885.ext Ex910) MR (S770.ext Ex906) (S779.ext Ex909) ml770 ml779 (CS.ext Ex905) ((S770.ext Ex906).exa) ((S772.ext Ex907).exa)) hZ (wq hw 147 rfl) (wq hw 88 rfl) (by decide) (by decide)) q913a q913c (g := (mkF m 141 #[vI pa, vI pb, vI pc, vI pd, vI pk, vR a770, vR a772, vR a775, vR a779, vI (2 : Int32), vR a856, vR a772, vR a891, vI (1 : Int32), .unset, .unset] [(.ref a779), (.ref a891), (.ref a779)])) rfl (by rw [hml]; rfl) (Steps.refl _) (argsL := [(.ref a779)]) (rest := [(.ref a779)]) (lenOf pd_41 rfl) rfl (w0 rfl) (dq (dg dlw 70 rfl)) (fun _ _ => ⟨rfl, e912, (by decide : 15 + 11 ≤ _), (by decide : 47 + 62 ≤ _)⟩)
    dsimp only [Pt.U, Pt.locs, Pt.cells, Pt.slots] at X913 l913 y913 z913 st913 hQ913
    subst l913 y913 z913
    obtain ⟨r913, t913, u913, rfl, Nq913, E913, G913, R913⟩ := hQ913
    have N913 := Fr.app N912 Nq913
    have Ex914 : Ext h0 T913.heap := Ex905.tr E913
    have Ex915 : Ext T770.heap T913.heap := Ex906.tr E913
    have Ex916 : Ext T772.heap T913.heap := Ex907.tr E913
    have Ex918 : Ext T779.heap T913.heap := Ex909.tr E913
    have Ex919 : Ext T885.heap T913.heap := Ex910.tr E913
    have Ex920 : Ext T904.heap T913.heap := E913
    refine R2 st913 ?_
    show Rch p e below T913 (mkF m 144 #[vI pa, vI pb, vI pc, vI pd, vI pk, vR a770, vR a772, vR a775, vR a779, vI (2 : Int32), vR a856, vR a772, vR a891, vI (1 : Int32), .unset, .unset] [(.ref r913), (.ref a779)]) _
    obtain ⟨cq921, kq921, q921a, q921b, q921c⟩ := isOf hZ rfl G913.1
    obtain ⟨_, _, ⟨T921, L921, k921, n921⟩, -, X921, ⟨Lc921, hQ921, l921, y921, z921⟩, st921⟩ := X913.virtualBack hx (y := mN65) (z := mN65) hown (mw hZ hw 102 rfl) (mw hZ hw 103 rfl) (notFace_of_selects (args := #[]) (mw hZ hw 105 rfl)) (mw hZ hw 105 rfl) (mw hZ hw 104 rfl) (by decide) (backOf (W := 1) (rm_lastN l Z a0 hw [] r913 t913 u913 a779 (3 : Int32) [(.ref a770), (.ref a772), (.ref a779)] T913.heap n0 (Nat.le_trans Z0 Ex914.1) G913 R913 ⟨by decide, by decide⟩ rfl ((S779.ext Ex918).exa)) hZ (wq hw 106 rfl) (wq hw 88 rfl) (by decide) (by decide)) q921a q921c (g := (mkF m 144 #[vI pa, vI pb, vI pc, vI pd, vI pk, vR a770, vR a772, vR a775, vR a779, vI (2 : Int32), vR a856, vR a772, vR a891, vI (1 : Int32), .unset, .unset] [(.ref r913), (.ref a779)])) rfl (by rw [hml]; rfl) (Steps.refl _) (argsL := []) (rest := [(.ref a779)]) (lenOf pd_35 rfl) rfl (w0 rfl) (dq (dg dlw 71 rfl)) (fun _ _ => ⟨rfl, rfl, (by decide : 26 + 0 ≤ _), (by decide : 109 + 0 ≤ _)⟩)
    dsimp only [Pt.U, Pt.locs, Pt.cells, Pt.slots] at X921 l921 y921 z921 st921 hQ921
    subst l921 y921 z921
    obtain ⟨rfl, Nq921, e921⟩ := hQ921
    have N921 := Fr.app N913 Nq921
    refine R2 st921 ?_
    show Rch p e below T921 (mkF m 147 #[vI pa, vI pb, vI pc, vI pd, vI pk, vR a770, vR a772, vR a775, vR a779, vI (2 : Int32), vR a856, vR a772, vR a891, vI (1 : Int32), .unset, .unset] [(.ref a779), (.ref a779)]) _
    obtain ⟨cq922, kq922, q922a, q922b, q922c⟩ := isOf hZ e921 (S779.ext Ex918).exa
    obtain ⟨_, _, ⟨T922, L922, k922, n922⟩, -, X922, ⟨Lc922, hQ922, l922, y922, z922⟩, st922⟩ := X921.virtualBack hx (y := mN68) (z := mN68) hown (mw hZ hw 138 rfl) (mw hZ hw 139 rfl) (notFace_of_selects (args := #[]) (mw hZ hw 141 rfl)) (mw hZ hw 141 rfl) (mw hZ hw 140 rfl) (by decide) (backOf (W := 0) (rm_eqP l Z a0 hw [] a779 T913.heap n0 (Nat.le_trans Z0 Ex914.1)) hZ (wq hw 142 rfl) (wq hw 6 rfl) (by decide) (by decide)) q922a q922c (g := (mkF m 147 #[vI pa, vI pb, vI pc, vI pd, vI pk, vR a770, vR a772, vR a775, vR a779, vI (2 : Int32), vR a856, vR a772, vR a891, vI (1 : Int32), .unset, .unset] [(.ref a779), (.ref a779)])) rfl (by rw [hml]; rfl) (Steps.refl _) (argsL := [(.ref a779)]) (rest := []) (lenOf pd_32 rfl) rfl (w0 rfl) (dq (dg dlw 72 rfl)) (fun _ _ => ⟨rfl, e921, (by decide : 26 + 0 ≤ _), (by decide : 109 + 0 ≤ _)⟩)
    dsimp only [Pt.U, Pt.locs, Pt.cells, Pt.slots] at X922 l922 y922 z922 st922 hQ922
    subst l922 y922 z922
    obtain ⟨rfl, Nq922, e922⟩ := hQ922
    have N922 := Fr.app N921 Nq922
    refine R2 st922 ?_
    show Rch p e below T922 (mkF m 150 #[vI pa, vI pb, vI pc, vI pd, vI pk, vR a770, vR a772, vR a775, vR a779, vI (2 : Int32), vR a856, vR a772, vR a891, vI (1 : Int32), .unset, .unset] [(.int (1 : Int32))]) _
    refine R1 (XS.istore X922.here hx rfl (dq (dg dlw 73 rfl)) rfl (l' := #[vI pa, vI pb, vI pc, vI pd, vI pk, vR a770, vR a772, vR a775, vR a779, vI (2 : Int32), vR a856, vR a772, vR a891, vI (1 : Int32), vI (1 : Int32), .unset]) rfl) ?_
    refine R1 (XS.aload X922.here hx rfl (dq (dg dlw 74 rfl)) rfl rfl) ?_
    refine R1 (XS.aload X922.here hx rfl (dq (dg dlw 75 rfl)) rfl rfl) ?_
    refine R1 (XS.aload X922.here hx rfl (dq (dg dlw 76 rfl)) rfl rfl) ?_
    show Rch p e below T922 (mkF m 158 #[vI pa, vI pb, vI pc, vI pd, vI pk, vR a770, vR a772, vR a775, vR a779, vI (2 : Int32), vR a856, vR a772, vR a891, vI (1 : Int32), vI (1 : Int32), .unset] [(.ref a891), (.ref a779), (.ref a772)]) _
    obtain ⟨_, _, ⟨T923, L923, k923, n923⟩, -, X923, ⟨Lc923, hQ923, l923, y923, z923⟩, st923⟩ := Jvm.LawKit.callS X922 hx (y := mN72) hown (mw hZ hw 378 rfl) (mw hZ hw 379 rfl) (mw hZ hw 88 rfl) (mw hZ hw 380 rfl) (by decide) (backOf (W := 1) (rm_of2 l Z a0 hw [] a891 a856 a770 a779 ea873 mr a770 a772 m770 m779 T913.heap n0 (Nat.le_trans Z0 Ex914.1) (G904.ext Ex920) (AL885.ext Ex919) MR (S770.ext Ex915) (S779.ext Ex918) ml770 ml779 (CS.ext Ex914) ((S770.ext Ex915).exa) ((S772.ext Ex916).exa)) hZ (wq hw 380 rfl) (wq hw 88 rfl) (by decide) (by decide)) (g := (mkF m 158 #[vI pa, vI pb, vI pc, vI pd, vI pk, vR a770, vR a772, vR a775, vR a779, vI (2 : Int32), vR a856, vR a772, vR a891, vI (1 : Int32), vI (1 : Int32), .unset] [(.ref a891), (.ref a779), (.ref a772)])) rfl (by rw [hml]; rfl) (argsL := [(.ref a779), (.ref a891)]) (rest := [(.ref a772)]) (lenOf pd_42 rfl) rfl (w0 rfl) (dq (dg dlw 77 rfl)) (fun _ _ => ⟨rfl, e922, (by decide : 26 + 11 ≤ _), (by decide : 109 + 62 ≤ _)⟩)
    dsimp only [Pt.U, Pt.locs, Pt.cells, Pt.slots] at X923 l923 y923 z923 st923 hQ923
    subst l923 y923 z923
    obtain ⟨r923, t923, u923, rfl, Nq923, E923, G923, R923⟩ := hQ923
    have N923 := Fr.app N922 Nq923
    have Ex924 : Ext h0 T923.heap := Ex914.tr E923
    have Ex926 : Ext T772.heap T923.heap := Ex916.tr E923
    refine R0_ st923 ?_
    show Rch p e below T923 (mkF m 161 #[vI pa, vI pb, vI pc, vI pd, vI pk, vR a770, vR a772, vR a775, vR a779, vI (2 : Int32), vR a856, vR a772, vR a891, vI (1 : Int32), vI (1 : Int32), .unset] [(.ref r923), (.ref a772)]) _
    obtain ⟨cq932, kq932, q932a, q932b, q932c⟩ := isOf hZ rfl G923.1
    obtain ⟨_, _, ⟨T932, L932, k932, n932⟩, -, X932, ⟨Lc932, hQ932, l932, y932, z932⟩, st932⟩ := X923.virtualBack hx (y := mN65) (z := mN65) hown (mw hZ hw 102 rfl) (mw hZ hw 103 rfl) (notFace_of_selects (args := #[]) (mw hZ hw 105 rfl)) (mw hZ hw 105 rfl) (mw hZ hw 104 rfl) (by decide) (backOf (W := 1) (rm_lastN l Z a0 hw [] r923 t923 u923 a772 (3 : Int32) [(.ref a779), (.ref a770), (.ref a772)] T923.heap n0 (Nat.le_trans Z0 Ex924.1) G923 R923 ⟨by decide, by decide⟩ rfl ((S772.ext Ex926).exa)) hZ (wq hw 106 rfl) (wq hw 88 rfl) (by decide) (by decide)) q932a q932c (g := (mkF m 161 #[vI pa, vI pb, vI pc, vI pd, vI pk, vR a770, vR a772, vR a775, vR a779, vI (2 : Int32), vR a856, vR a772, vR a891, vI (1 : Int32), vI (1 : Int32), .unset] [(.ref r923), (.ref a772)])) rfl (by rw [hml]; rfl) (Steps.refl _) (argsL := []) (rest := [(.ref a772)]) (lenOf pd_35 rfl) rfl (w0 rfl) (dq (dg dlw 78 rfl)) (fun _ _ => ⟨rfl, rfl, (by decide : 37 + 0 ≤ _), (by decide : 171 + 0 ≤ _)⟩)
    dsimp only [Pt.U, Pt.locs, Pt.cells, Pt.slots] at X932 l932 y932 z932 st932 hQ932
    subst l932 y932 z932
    obtain ⟨rfl, Nq932, e932⟩ := hQ932
    have N932 := Fr.app N923 Nq932
    refine R2 st932 ?_
    show Rch p e below T932 (mkF m 164 #[vI pa, vI pb, vI pc, vI pd, vI pk, vR a770, vR a772, vR a775, vR a779, vI (2 : Int32), vR a856, vR a772, vR a891, vI (1 : Int32), vI (1 : Int32), .unset] [(.ref a772), (.ref a772)]) _
    obtain ⟨cq933, kq933, q933a, q933b, q933c⟩ := isOf hZ e932 (S772.ext Ex926).exa
    obtain ⟨_, _, ⟨T933, L933, k933, n933⟩, -, X933, ⟨Lc933, hQ933, l933, y933, z933⟩, st933⟩ := X932.virtualBack hx (y := mN68) (z := mN68) hown (mw hZ hw 138 rfl) (mw hZ hw 139 rfl) (notFace_of_selects (args := #[]) (mw hZ hw 141 rfl)) (mw hZ hw 141 rfl) (mw hZ hw 140 rfl) (by decide) (backOf (W := 0) (rm_eqP l Z a0 hw [] a772 T923.heap n0 (Nat.le_trans Z0 Ex924.1)) hZ (wq hw 142 rfl) (wq hw 6 rfl) (by decide) (by decide)) q933a q933c (g := (mkF m 164 #[vI pa, vI pb, vI pc, vI pd, vI pk, vR a770, vR a772, vR a775, vR a779, vI (2 : Int32), vR a856, vR a772, vR a891, vI (1 : Int32), vI (1 : Int32), .unset] [(.ref a772), (.ref a772)])) rfl (by rw [hml]; rfl) (Steps.refl _) (argsL := [(.ref a772)]) (rest := []) (lenOf pd_32 rfl) rfl (w0 rfl) (dq (dg dlw 79 rfl)) (fun _ _ => ⟨rfl, e932, (by decide : 37 + 0 ≤ _), (by decide : 171 + 0 ≤ _)⟩)
    dsimp only [Pt.U, Pt.locs, Pt.cells, Pt.slots] at X933 l933 y933 z933 st933 hQ933
    subst l933 y933 z933
    obtain ⟨rfl, Nq933, e933⟩ := hQ933
    have N933 := Fr.app N932 Nq933
    refine R2 st933 ?_
    show Rch p e below T933 (mkF m 167 #[vI pa, vI pb, vI pc, vI pd, vI pk, vR a770, vR a772, vR a775, vR a779, vI (2 : Int32), vR a856, vR a772, vR a891, vI (1 : Int32), vI (1 : Int32), .unset] [(.int (1 : Int32))]) _
    refine R1 (XS.istore X933.here hx rfl (dq (dg dlw 80 rfl)) rfl (l' := #[vI pa, vI pb, vI pc, vI pd, vI pk, vR a770, vR a772, vR a775, vR a779, vI (2 : Int32), vR a856, vR a772, vR a891, vI (1 : Int32), vI (1 : Int32), vI (1 : Int32)]) rfl) ?_
    refine R1 (XS.iload X933.here hx rfl (dq (dg dlw 81 rfl)) rfl) ?_
    refine R1 (XS.ifNo X933.here hx rfl (dq (dg dlw 82 rfl)) rfl (by decide : ifCond.holds .eq (1 : Int32) = false)) ?_
    refine R1 (XS.iload X933.here hx rfl (dq (dg dlw 83 rfl)) rfl) ?_
    show Rch p e below T933 (mkF m 176 #[vI pa, vI pb, vI pc, vI pd, vI pk, vR a770, vR a772, vR a775, vR a779, vI (2 : Int32), vR a856, vR a772, vR a891, vI (1 : Int32), vI (1 : Int32), vI (1 : Int32)] [(.int (1 : Int32))]) _
    refine R1 (XS.ifNo X933.here hx rfl (dq (dg dlw 84 rfl)) rfl (by decide : ifCond.holds .eq (1 : Int32) = false)) ?_
    refine R1 (XS.iload X933.here hx rfl (dq (dg dlw 85 rfl)) rfl) ?_
    refine R1 (XS.ifNo X933.here hx rfl (dq (dg dlw 86 rfl)) rfl (by decide : ifCond.holds .eq (1 : Int32) = false)) ?_
    refine R1 (XS.iconst X933.here hx rfl (dq (dg dlw 87 rfl)) ) ?_
    show Rch p e below T933 (mkF m 185 #[vI pa, vI pb, vI pc, vI pd, vI pk, vR a770, vR a772, vR a775, vR a779, vI (2 : Int32), vR a856, vR a772, vR a891, vI (1 : Int32), vI (1 : Int32), vI (1 : Int32)] [(.int (1 : Int32))]) _
    refine R1 (XS.goto X933.here hx rfl (pc0 := 185) (pc' := 189) rfl (dq (dg dlw 88 rfl)) (by decide) (by decide)) ?_
    show Rch p e below T933 (mkF m 189 #[vI pa, vI pb, vI pc, vI pd, vI pk, vR a770, vR a772, vR a775, vR a779, vI (2 : Int32), vR a856, vR a772, vR a891, vI (1 : Int32), vI (1 : Int32), vI (1 : Int32)] [(.int (1 : Int32))]) _
    exact Rch.fin (Q := Q_law Z pa pb pc pd pk da em mr h0 n0) X933 (v := some (.int (1 : Int32))) (fun h => by rw [Bd.returns] at h; cases h) (BodyLoose.notSynchronized Bd) (fun fs hr => retN X933 hx (t := .boolean) Bd.returns (by simp) (dq (dg dlw 89 rfl)) hr) (by rw [e933]; exact ⟨rfl, N933⟩) (by decide) (by decide)
  · skip
    rw [hn]
    show Rch p e below T779 (mkF m 33 #[vI pa, vI pb, vI pc, vI pd, vI pk, vR a770, vR a772, vR a775, vR a779, .unset, .unset, .unset, .unset, .unset, .unset, .unset] [(.int (3 : Int32))]) _
    refine R1 (XS.istore X779.here hx rfl (dq (dg dlw 19 rfl)) rfl (l' := #[vI pa, vI pb, vI pc, vI pd, vI pk, vR a770, vR a772, vR a775, vR a779, vI (3 : Int32), .unset, .unset, .unset, .unset, .unset, .unset]) rfl) ?_
    show Rch p e below T779 (mkF m 35 #[vI pa, vI pb, vI pc, vI pd, vI pk, vR a770, vR a772, vR a775, vR a779, vI (3 : Int32), .unset, .unset, .unset, .unset, .unset, .unset] []) _
    obtain ⟨T934, h934, X934, e934, E934, A934, D934, -, st934⟩ := newO X779 hx hZ hown (wq hw 31 rfl) (wq hw 32 rfl) (wq hw 33 rfl) rfl (g := (mkF m 35 #[vI pa, vI pb, vI pc, vI pd, vI pk, vR a770, vR a772, vR a775, vR a779, vI (3 : Int32), .unset, .unset, .unset, .unset, .unset, .unset] [])) rfl (dq (dg dlw 20 rfl)) (by decide) (by decide)
    obtain ⟨a934, g934⟩ : ∃ z, z = T779.heap.size := ⟨_, rfl⟩
    rw [← g934] at A934 D934 st934
    have Ex935 : Ext h0 h934 := Ex780.tr E934
    have Ex936 : Ext T770.heap h934 := Ex781.tr E934
    have Ex937 : Ext T772.heap h934 := Ex782.tr E934
    have Ex938 : Ext T775.heap h934 := Ex783.tr E934
    have Ex939 : Ext T779.heap h934 := E934
    have le940 : h0.size ≤ a934 := Nat.le_trans Ex780.1 (Nat.le_of_eq g934.symm)
    have le941 : T770.heap.size ≤ a934 := Nat.le_trans Ex781.1 (Nat.le_of_eq g934.symm)
    have le942 : T772.heap.size ≤ a934 := Nat.le_trans Ex782.1 (Nat.le_of_eq g934.symm)
    have le943 : T775.heap.size ≤ a934 := Nat.le_trans Ex783.1 (Nat.le_of_eq g934.symm)
    have le944 : T779.heap.size ≤ a934 := Nat.le_of_eq g934.symm
    refine R0_ st934 ?_
    show Rch p e below T934 (mkF m 38 #[vI pa, vI pb, vI pc, vI pd, vI pk, vR a770, vR a772, vR a775, vR a779, vI (3 : Int32), .unset, .unset, .unset, .unset, .unset, .unset] [(.ref a934)]) _
    refine R1 (XS.dup X934.here hx rfl (dq (dg dlw 21 rfl)) rfl rfl) ?_
    show Rch p e below T934 (mkF m 39 #[vI pa, vI pb, vI pc, vI pd, vI pk, vR a770, vR a772, vR a775, vR a779, vI (3 : Int32), .unset, .unset, .unset, .unset, .unset, .unset] [(.ref a934), (.ref a934)]) _
    obtain ⟨_, _, ⟨T945, L945, k945, n945⟩, -, X945, ⟨Lc945, hQ945, l945, y945, z945⟩, st945⟩ := X934.specialBack hx (y := mN2) rfl hown (mw hZ hw 34 rfl) (mw hZ hw 35 rfl) (mw hZ hw 36 rfl) (by decide) (backOf (W := 1) (rm_alInit l Z a0 hw [] a934 da .null h934 n0 (Nat.le_trans Z0 Ex935.1) (Nat.le_trans Z0 le940) A934 ((D934 (Or.inl (wq hw 54 rfl)) (ty := (.array (.object "java/lang/Object"))) (by decide)).ext Ext.rf) ((D934 (Or.inl (wq hw 63 rfl)) (ty := .int) (by decide)).ext Ext.rf) ((D934 (Or.inl (wq hw 51 rfl)) (ty := .int) (by decide)).ext Ext.rf) (DS.ext Ex935) (DA.ext Ex935) hda) hZ (wq hw 36 rfl) (wq hw 33 rfl) (by decide) (by decide)) (g := (mkF m 39 #[vI pa, vI pb, vI pc, vI pd, vI pk, vR a770, vR a772, vR a775, vR a779, vI (3 : Int32), .unset, .unset, .unset, .unset, .unset, .unset] [(.ref a934), (.ref a934)])) rfl (by rw [hml]; rfl) (Steps.refl _) (a := a934) (argsL := []) (rest := [(.ref a934)]) (lenOf pd_0 rfl) rfl (w0 rfl) (dq (dg dlw 22 rfl)) (fun _ _ => ⟨rfl, e934, (by decide : 13 + 0 ≤ _), (by decide : 35 + 0 ≤ _)⟩)
    dsimp only [Pt.U, Pt.locs, Pt.cells, Pt.slots] at X945 l945 y945 z945 st945 hQ945
    subst l945 y945 z945
    obtain ⟨rfl, Nq945, K945, A945⟩ := hQ945
    have N945 := Fr.app N779 Nq945
    have Ex946 : Ext h0 T945.heap := extKeep Ex935 K945 (allS le940 all0)
    have Ex947 : Ext T770.heap T945.heap := extKeep Ex936 K945 (allS le941 all0)
    have Ex948 : Ext T772.heap T945.heap := extKeep Ex937 K945 (allS le942 all0)
    have Ex949 : Ext T775.heap T945.heap := extKeep Ex938 K945 (allS le943 all0)
    have Ex950 : Ext T779.heap T945.heap := extKeep Ex939 K945 (allS le944 all0)
    refine R2 st945 ?_
    show Rch p e below T945 (mkF m 42 #[vI pa, vI pb, vI pc, vI pd, vI pk, vR a770, vR a772, vR a775, vR a779, vI (3 : Int32), .unset, .unset, .unset, .unset, .unset, .unset] [(.ref a934)]) _
    refine R1 (XS.astore X945.here hx rfl (dq (dg dlw 23 rfl)) rfl rfl (l' := #[vI pa, vI pb, vI pc, vI pd, vI pk, vR a770, vR a772, vR a775, vR a779, vI (3 : Int32), vR a934, .unset, .unset, .unset, .unset, .unset]) rfl) ?_
    refine R1 (XS.aload X945.here hx rfl (dq (dg dlw 24 rfl)) rfl rfl) ?_
    refine R1 (XS.aload X945.here hx rfl (dq (dg dlw 25 rfl)) rfl rfl) ?_
    show Rch p e below T945 (mkF m 48 #[vI pa, vI pb, vI pc, vI pd, vI pk, vR a770, vR a772, vR a775, vR a779, vI (3 : Int32), vR a934, .unset, .unset, .unset, .unset, .unset] [(.ref a770), (.ref a934)]) _
    obtain ⟨cq951, kq951, q951a, q951b, q951c⟩ := isOf hZ rfl A945.1
    obtain ⟨_, _, ⟨T951, L951, k951, n951⟩, -, X951, ⟨Lc951, hQ951, l951, y951, z951⟩, st951⟩ := X945.virtualBack hx (y := mN7) (z := mN7) hown (mw hZ hw 55 rfl) (mw hZ hw 56 rfl) (notFace_of_selects (args := #[]) (mw hZ hw 58 rfl)) (mw hZ hw 58 rfl) (mw hZ hw 57 rfl) (by decide) (backOf (W := 0) (rm_addG l Z a0 hw [] a934 a770 da T945.heap n0 (Nat.le_trans Z0 Ex946.1) (Nat.le_trans Z0 le940) A945 (DS.ext Ex946) ((S770.ext Ex947).exa)) hZ (wq hw 59 rfl) (wq hw 33 rfl) (by decide) (by decide)) q951a q951c (g := (mkF m 48 #[vI pa, vI pb, vI pc, vI pd, vI pk, vR a770, vR a772, vR a775, vR a779, vI (3 : Int32), vR a934, .unset, .unset, .unset, .unset, .unset] [(.ref a770), (.ref a934)])) rfl (by rw [hml]; rfl) (Steps.refl _) (argsL := [(.ref a770)]) (rest := []) (lenOf pd_32 rfl) rfl (w0 rfl) (dq (dg dlw 26 rfl)) (fun _ _ => ⟨rfl, rfl, (by decide : 13 + 1 ≤ _), (by decide : 35 + 10 ≤ _)⟩)
    dsimp only [Pt.U, Pt.locs, Pt.cells, Pt.slots] at X951 l951 y951 z951 st951 hQ951
    subst l951 y951 z951
    obtain ⟨ea951, rfl, Nq951, K951, le951_, A951⟩ := hQ951
    have N951 := Fr.app N945 Nq951
    have Ex952 : Ext h0 T951.heap := extKeep Ex946 K951 (allS le940 all0)
    have Ex953 : Ext T770.heap T951.heap := extKeep Ex947 K951 (allS le941 all0)
    have Ex954 : Ext T772.heap T951.heap := extKeep Ex948 K951 (allS le942 all0)
    have Ex955 : Ext T775.heap T951.heap := extKeep Ex949 K951 (allS le943 all0)
    have Ex956 : Ext T779.heap T951.heap := extKeep Ex950 K951 (allS le944 all0)
    refine R2 st951 ?_
    show Rch p e below T951 (mkF m 51 #[vI pa, vI pb, vI pc, vI pd, vI pk, vR a770, vR a772, vR a775, vR a779, vI (3 : Int32), vR a934, .unset, .unset, .unset, .unset, .unset] [(.int (1 : Int32))]) _
    have le957 : h0.size ≤ ea951 := Nat.le_trans Ex946.1 le951_
    have le958 : T770.heap.size ≤ ea951 := Nat.le_trans Ex947.1 le951_
    have le959 : T772.heap.size ≤ ea951 := Nat.le_trans Ex948.1 le951_
    have le960 : T775.heap.size ≤ ea951 := Nat.le_trans Ex949.1 le951_
    have le961 : T779.heap.size ≤ ea951 := Nat.le_trans Ex950.1 le951_
    refine R1 (XT.pop X951.here hx rfl (dq (dg dlw 27 rfl)) rfl rfl) ?_
    refine R1 (XS.iload X951.here hx rfl (dq (dg dlw 28 rfl)) rfl) ?_
    refine R1 (XS.iconst X951.here hx rfl (dq (dg dlw 29 rfl)) ) ?_
    refine R1 (XS.icmpNo X951.here hx rfl (dq (dg dlw 30 rfl)) rfl (by decide : if_icmp.holds .lt (3 : Int32) (2 : Int32) = false)) ?_
    show Rch p e below T951 (mkF m 58 #[vI pa, vI pb, vI pc, vI pd, vI pk, vR a770, vR a772, vR a775, vR a779, vI (3 : Int32), vR a934, .unset, .unset, .unset, .unset, .unset] []) _
    refine R1 (XS.aload X951.here hx rfl (dq (dg dlw 31 rfl)) rfl rfl) ?_
    refine R1 (XS.aload X951.here hx rfl (dq (dg dlw 32 rfl)) rfl rfl) ?_
    show Rch p e below T951 (mkF m 62 #[vI pa, vI pb, vI pc, vI pd, vI pk, vR a770, vR a772, vR a775, vR a779, vI (3 : Int32), vR a934, .unset, .unset, .unset, .unset, .unset] [(.ref a772), (.ref a934)]) _
    obtain ⟨cq963, kq963, q963a, q963b, q963c⟩ := isOf hZ rfl A951.1
    obtain ⟨_, _, ⟨T963, L963, k963, n963⟩, -, X963, ⟨Lc963, hQ963, l963, y963, z963⟩, st963⟩ := X951.virtualBack hx (y := mN7) (z := mN7) hown (mw hZ hw 55 rfl) (mw hZ hw 56 rfl) (notFace_of_selects (args := #[]) (mw hZ hw 58 rfl)) (mw hZ hw 58 rfl) (mw hZ hw 57 rfl) (by decide) (backOf (W := 0) (rm_addR l Z a0 hw [] a934 a772 ea951 10 (1 : Int32) [(.ref a770)] T951.heap n0 (Nat.le_trans Z0 Ex952.1) (Nat.le_trans Z0 le940) (Nat.le_trans Z0 le957) A951 ((S772.ext Ex954).exa) (by decide) ⟨by decide, by decide⟩ rfl) hZ (wq hw 59 rfl) (wq hw 33 rfl) (by decide) (by decide)) q963a q963c (g := (mkF m 62 #[vI pa, vI pb, vI pc, vI pd, vI pk, vR a770, vR a772, vR a775, vR a779, vI (3 : Int32), vR a934, .unset, .unset, .unset, .unset, .unset] [(.ref a772), (.ref a934)])) rfl (by rw [hml]; rfl) (Steps.refl _) (argsL := [(.ref a772)]) (rest := []) (lenOf pd_32 rfl) rfl (w0 rfl) (dq (dg dlw 33 rfl)) (fun _ _ => ⟨rfl, rfl, (by decide : 14 + 0 ≤ _), (by decide : 45 + 0 ≤ _)⟩)
    dsimp only [Pt.U, Pt.locs, Pt.cells, Pt.slots] at X963 l963 y963 z963 st963 hQ963
    subst l963 y963 z963
    obtain ⟨rfl, Nq963, K963, A963⟩ := hQ963
    have N963 := Fr.app N951 Nq963
    have Ex964 : Ext h0 T963.heap := extKeep Ex952 K963 (allS le940 (allS le957 all0))
    have Ex965 : Ext T770.heap T963.heap := extKeep Ex953 K963 (allS le941 (allS le958 all0))
    have Ex966 : Ext T772.heap T963.heap := extKeep Ex954 K963 (allS le942 (allS le959 all0))
    have Ex967 : Ext T775.heap T963.heap := extKeep Ex955 K963 (allS le943 (allS le960 all0))
    have Ex968 : Ext T779.heap T963.heap := extKeep Ex956 K963 (allS le944 (allS le961 all0))
    refine R2 st963 ?_
    show Rch p e below T963 (mkF m 65 #[vI pa, vI pb, vI pc, vI pd, vI pk, vR a770, vR a772, vR a775, vR a779, vI (3 : Int32), vR a934, .unset, .unset, .unset, .unset, .unset] [(.int (1 : Int32))]) _
    have AL963 : Al Z T963.heap a934 ea951 (10 : Int32) (2 : Int32) [(.ref a770), (.ref a772)] := by have q := A963; rw [show (1 : Int32) + (1 : Int32) = (2 : Int32) from by decide] at q; exact q
    refine R1 (XT.pop X963.here hx rfl (dq (dg dlw 34 rfl)) rfl rfl) ?_
    refine R1 (XS.iload X963.here hx rfl (dq (dg dlw 35 rfl)) rfl) ?_
    refine R1 (XS.iconst X963.here hx rfl (dq (dg dlw 36 rfl)) ) ?_
    refine R1 (XS.icmpNo X963.here hx rfl (dq (dg dlw 37 rfl)) rfl (by decide : if_icmp.holds .lt (3 : Int32) (3 : Int32) = false)) ?_
    show Rch p e below T963 (mkF m 72 #[vI pa, vI pb, vI pc, vI pd, vI pk, vR a770, vR a772, vR a775, vR a779, vI (3 : Int32), vR a934, .unset, .unset, .unset, .unset, .unset] []) _
    refine R1 (XS.aload X963.here hx rfl (dq (dg dlw 38 rfl)) rfl rfl) ?_
    refine R1 (XS.aload X963.here hx rfl (dq (dg dlw 39 rfl)) rfl rfl) ?_
    show Rch p e below T963 (mkF m 76 #[vI pa, vI pb, vI pc, vI pd, vI pk, vR a770, vR a772, vR a775, vR a779, vI (3 : Int32), vR a934, .unset, .unset, .unset, .unset, .unset] [(.ref a775), (.ref a934)]) _
    obtain ⟨cq969, kq969, q969a, q969b, q969c⟩ := isOf hZ rfl AL963.1
    obtain ⟨_, _, ⟨T969, L969, k969, n969⟩, -, X969, ⟨Lc969, hQ969, l969, y969, z969⟩, st969⟩ := X963.virtualBack hx (y := mN7) (z := mN7) hown (mw hZ hw 55 rfl) (mw hZ hw 56 rfl) (notFace_of_selects (args := #[]) (mw hZ hw 58 rfl)) (mw hZ hw 58 rfl) (mw hZ hw 57 rfl) (by decide) (backOf (W := 0) (rm_addR l Z a0 hw [] a934 a775 ea951 10 (2 : Int32) [(.ref a770), (.ref a772)] T963.heap n0 (Nat.le_trans Z0 Ex964.1) (Nat.le_trans Z0 le940) (Nat.le_trans Z0 le957) AL963 ((S775.ext Ex967).exa) (by decide) ⟨by decide, by decide⟩ rfl) hZ (wq hw 59 rfl) (wq hw 33 rfl) (by decide) (by decide)) q969a q969c (g := (mkF m 76 #[vI pa, vI pb, vI pc, vI pd, vI pk, vR a770, vR a772, vR a775, vR a779, vI (3 : Int32), vR a934, .unset, .unset, .unset, .unset, .unset] [(.ref a775), (.ref a934)])) rfl (by rw [hml]; rfl) (Steps.refl _) (argsL := [(.ref a775)]) (rest := []) (lenOf pd_32 rfl) rfl (w0 rfl) (dq (dg dlw 40 rfl)) (fun _ _ => ⟨rfl, rfl, (by decide : 14 + 0 ≤ _), (by decide : 45 + 0 ≤ _)⟩)
    dsimp only [Pt.U, Pt.locs, Pt.cells, Pt.slots] at X969 l969 y969 z969 st969 hQ969
    subst l969 y969 z969
    obtain ⟨rfl, Nq969, K969, A969⟩ := hQ969
    have N969 := Fr.app N963 Nq969
    have Ex970 : Ext h0 T969.heap := extKeep Ex964 K969 (allS le940 (allS le957 all0))
    have Ex971 : Ext T770.heap T969.heap := extKeep Ex965 K969 (allS le941 (allS le958 all0))
    have Ex972 : Ext T772.heap T969.heap := extKeep Ex966 K969 (allS le942 (allS le959 all0))
    have Ex973 : Ext T775.heap T969.heap := extKeep Ex967 K969 (allS le943 (allS le960 all0))
    have Ex974 : Ext T779.heap T969.heap := extKeep Ex968 K969 (allS le944 (allS le961 all0))
    refine R2 st969 ?_
    show Rch p e below T969 (mkF m 79 #[vI pa, vI pb, vI pc, vI pd, vI pk, vR a770, vR a772, vR a775, vR a779, vI (3 : Int32), vR a934, .unset, .unset, .unset, .unset, .unset] [(.int (1 : Int32))]) _
    have AL969 : Al Z T969.heap a934 ea951 (10 : Int32) (3 : Int32) [(.ref a770), (.ref a772), (.ref a775)] := by have q := A969; rw [show (2 : Int32) + (1 : Int32) = (3 : Int32) from by decide] at q; exact q
    refine R1 (XT.pop X969.here hx rfl (dq (dg dlw 41 rfl)) rfl rfl) ?_
    refine R1 (XS.iload X969.here hx rfl (dq (dg dlw 42 rfl)) rfl) ?_
    refine R1 (XS.iconst X969.here hx rfl (dq (dg dlw 43 rfl)) ) ?_
    refine R1 (XS.icmpYes X969.here hx rfl (pc0 := 83) (pc' := 93) rfl (dq (dg dlw 44 rfl)) rfl (by decide : if_icmp.holds .ne (3 : Int32) (1 : Int32) = true) (by decide) (by decide)) ?_
    show Rch p e below T969 (mkF m 93 #[vI pa, vI pb, vI pc, vI pd, vI pk, vR a770, vR a772, vR a775, vR a779, vI (3 : Int32), vR a934, .unset, .unset, .unset, .unset, .unset] []) _
    refine R1 (XS.iload X969.here hx rfl (dq (dg dlw 48 rfl)) rfl) ?_
    refine R1 (XS.iconst X969.here hx rfl (dq (dg dlw 49 rfl)) ) ?_
    refine R1 (XS.icmpYes X969.here hx rfl (pc0 := 96) (pc' := 106) rfl (dq (dg dlw 50 rfl)) rfl (by decide : if_icmp.holds .ne (3 : Int32) (2 : Int32) = true) (by decide) (by decide)) ?_
    refine R1 (XS.aload X969.here hx rfl (dq (dg dlw 54 rfl)) rfl rfl) ?_
    show Rch p e below T969 (mkF m 108 #[vI pa, vI pb, vI pc, vI pd, vI pk, vR a770, vR a772, vR a775, vR a779, vI (3 : Int32), vR a934, .unset, .unset, .unset, .unset, .unset] [(.ref a775)]) _
    refine R1 (XS.astore X969.here hx rfl (dq (dg dlw 55 rfl)) rfl rfl (l' := #[vI pa, vI pb, vI pc, vI pd, vI pk, vR a770, vR a772, vR a775, vR a779, vI (3 : Int32), vR a934, vR a775, .unset, .unset, .unset, .unset]) rfl) ?_
    show Rch p e below T969 (mkF m 110 #[vI pa, vI pb, vI pc, vI pd, vI pk, vR a770, vR a772, vR a775, vR a779, vI (3 : Int32), vR a934, vR a775, .unset, .unset, .unset, .unset] []) _
    obtain ⟨T975, h975, X975, e975, E975, A975, D975, -, st975⟩ := newO X969 hx hZ hown (wq hw 86 rfl) (wq hw 87 rfl) (wq hw 88 rfl) rfl (g := (mkF m 110 #[vI pa, vI pb, vI pc, vI pd, vI pk, vR a770, vR a772, vR a775, vR a779, vI (3 : Int32), vR a934, vR a775, .unset, .unset, .unset, .unset] [])) rfl (dq (dg dlw 56 rfl)) (by decide) (by decide)
    obtain ⟨a975, g975⟩ : ∃ z, z = T969.heap.size := ⟨_, rfl⟩
    rw [← g975] at A975 D975 st975
    have Ex976 : Ext h0 h975 := Ex970.tr E975
    have Ex977 : Ext T770.heap h975 := Ex971.tr E975
    have Ex978 : Ext T772.heap h975 := Ex972.tr E975
    have Ex979 : Ext T775.heap h975 := Ex973.tr E975
    have Ex980 : Ext T779.heap h975 := Ex974.tr E975
    have Ex981 : Ext T969.heap h975 := E975
    have le982 : h0.size ≤ a975 := Nat.le_trans Ex970.1 (Nat.le_of_eq g975.symm)
    have le983 : T770.heap.size ≤ a975 := Nat.le_trans Ex971.1 (Nat.le_of_eq g975.symm)
    have le984 : T772.heap.size ≤ a975 := Nat.le_trans Ex972.1 (Nat.le_of_eq g975.symm)
    have le985 : T775.heap.size ≤ a975 := Nat.le_trans Ex973.1 (Nat.le_of_eq g975.symm)
    have le986 : T779.heap.size ≤ a975 := Nat.le_trans Ex974.1 (Nat.le_of_eq g975.symm)
    have le987 : T969.heap.size ≤ a975 := Nat.le_of_eq g975.symm
    refine R0_ st975 ?_
    show Rch p e below T975 (mkF m 113 #[vI pa, vI pb, vI pc, vI pd, vI pk, vR a770, vR a772, vR a775, vR a779, vI (3 : Int32), vR a934, vR a775, .unset, .unset, .unset, .unset] [(.ref a975)]) _
    refine R1 (XS.dup X975.here hx rfl (dq (dg dlw 57 rfl)) rfl rfl) ?_
    refine R1 (XS.aload X975.here hx rfl (dq (dg dlw 58 rfl)) rfl rfl) ?_
    refine R1 (XS.aload X975.here hx rfl (dq (dg dlw 59 rfl)) rfl rfl) ?_
    show Rch p e below T975 (mkF m 118 #[vI pa, vI pb, vI pc, vI pd, vI pk, vR a770, vR a772, vR a775, vR a779, vI (3 : Int32), vR a934, vR a775, .unset, .unset, .unset, .unset] [(.ref a770), (.ref a934), (.ref a975), (.ref a975)]) _
    obtain ⟨_, _, ⟨T988, L988, k988, n988⟩, -, X988, ⟨Lc988, hQ988, l988, y988, z988⟩, st988⟩ := X975.specialBack hx (y := mN58) rfl hown (mw hZ hw 89 rfl) (mw hZ hw 90 rfl) (mw hZ hw 91 rfl) (by decide) (backOf (W := 1) (rm_chI l Z a0 hw [] a975 a934 a770 h975 n0 (Nat.le_trans Z0 Ex976.1) (Nat.le_trans Z0 le982) A975 ((D975 (Or.inr (wq hw 99 rfl)) (ty := (.object "java/util/List")) (by decide)).ext Ext.rf) ((D975 (Or.inr (wq hw 101 rfl)) (ty := (.object "java/lang/String")) (by decide)).ext Ext.rf)) hZ (wq hw 91 rfl) (wq hw 88 rfl) (by decide) (by decide)) (g := (mkF m 118 #[vI pa, vI pb, vI pc, vI pd, vI pk, vR a770, vR a772, vR a775, vR a779, vI (3 : Int32), vR a934, vR a775, .unset, .unset, .unset, .unset] [(.ref a770), (.ref a934), (.ref a975), (.ref a975)])) rfl (by rw [hml]; rfl) (Steps.refl _) (a := a975) (argsL := [(.ref a934), (.ref a770)]) (rest := [(.ref a975)]) (lenOf pd_36 rfl) rfl (w0 rfl) (dq (dg dlw 60 rfl)) (fun _ _ => ⟨rfl, e975, (by decide : 15 + 0 ≤ _), (by decide : 47 + 0 ≤ _)⟩)
    dsimp only [Pt.U, Pt.locs, Pt.cells, Pt.slots] at X988 l988 y988 z988 st988 hQ988
    subst l988 y988 z988
    obtain ⟨rfl, Nq988, K988, G988⟩ := hQ988
    have N988 := Fr.app N969 Nq988
    have Ex989 : Ext h0 T988.heap := extKeep Ex976 K988 (allS le982 all0)
    have Ex990 : Ext T770.heap T988.heap := extKeep Ex977 K988 (allS le983 all0)
    have Ex991 : Ext T772.heap T988.heap := extKeep Ex978 K988 (allS le984 all0)
    have Ex992 : Ext T775.heap T988.heap := extKeep Ex979 K988 (allS le985 all0)
    have Ex993 : Ext T779.heap T988.heap := extKeep Ex980 K988 (allS le986 all0)
    have Ex994 : Ext T969.heap T988.heap := extKeep Ex981 K988 (allS le987 all0)
    refine R2 st988 ?_
    show Rch p e below T988 (mkF m 121 #[vI pa, vI pb, vI pc, vI pd, vI pk, vR a770, vR a772, vR a775, vR a779, vI (3 : Int32), vR a934, vR a775, .unset, .unset, .unset, .unset] [(.ref a975)]) _
    refine R1 (XS.astore X988.here hx rfl (dq (dg dlw 61 rfl)) rfl rfl (l' := #[vI pa, vI pb, vI pc, vI pd, vI pk, vR a770, vR a772, vR a775, vR a779, vI (3 : Int32), vR a934, vR a775, vR a975, .unset, .unset, .unset]) rfl) ?_
    refine R1 (XS.aload X988.here hx rfl (dq (dg dlw 62 rfl)) rfl rfl) ?_
    refine R1 (XS.aload X988.here hx rfl (dq (dg dlw 63 rfl)) rfl rfl) ?_
    show Rch p e below T988 (mkF m 127 #[vI pa, vI pb, vI pc, vI pd, vI pk, vR a770, vR a772, vR a775, vR a779, vI (3 : Int32), vR a934, vR a775, vR a975, .unset, .unset, .unset] [(.ref a975), (.ref a775)]) _
    obtain ⟨cq995, kq995, q995a, q995b, q995c⟩ := isOf hZ rfl G988.1
    obtain ⟨_, _, ⟨T995, L995, k995, n995⟩, -, X995, ⟨Lc995, hQ995, l995, y995, z995⟩, st995⟩ := X988.virtualBack hx (y := mN65) (z := mN65) hown (mw hZ hw 102 rfl) (mw hZ hw 103 rfl) (notFace_of_selects (args := #[]) (mw hZ hw 105 rfl)) (mw hZ hw 105 rfl) (mw hZ hw 104 rfl) (by decide) (backOf (W := 1) (rm_lastA l Z a0 hw [] a975 a934 a770 ea951 a775 10 (3 : Int32) [(.ref a770), (.ref a772), (.ref a775)] T988.heap n0 (Nat.le_trans Z0 Ex989.1) G988 (AL969.ext Ex994) ⟨by decide, by decide⟩ rfl (by decide) ((S775.ext Ex992).exa)) hZ (wq hw 106 rfl) (wq hw 88 rfl) (by decide) (by decide)) q995a q995c (g := (mkF m 127 #[vI pa, vI pb, vI pc, vI pd, vI pk, vR a770, vR a772, vR a775, vR a779, vI (3 : Int32), vR a934, vR a775, vR a975, .unset, .unset, .unset] [(.ref a975), (.ref a775)])) rfl (by rw [hml]; rfl) (Steps.refl _) (argsL := []) (rest := [(.ref a775)]) (lenOf pd_35 rfl) rfl (w0 rfl) (dq (dg dlw 64 rfl)) (fun _ _ => ⟨rfl, rfl, (by decide : 15 + 0 ≤ _), (by decide : 47 + 0 ≤ _)⟩)
    dsimp only [Pt.U, Pt.locs, Pt.cells, Pt.slots] at X995 l995 y995 z995 st995 hQ995
    subst l995 y995 z995
    obtain ⟨rfl, Nq995, e995⟩ := hQ995
    have N995 := Fr.app N988 Nq995
    refine R2 st995 ?_
    show Rch p e below T995 (mkF m 130 #[vI pa, vI pb, vI pc, vI pd, vI pk, vR a770, vR a772, vR a775, vR a779, vI (3 : Int32), vR a934, vR a775, vR a975, .unset, .unset, .unset] [(.ref a775), (.ref a775)]) _
    obtain ⟨cq996, kq996, q996a, q996b, q996c⟩ := isOf hZ e995 (S775.ext Ex992).exa
    obtain ⟨_, _, ⟨T996, L996, k996, n996⟩, -, X996, ⟨Lc996, hQ996, l996, y996, z996⟩, st996⟩ := X995.virtualBack hx (y := mN68) (z := mN68) hown (mw hZ hw 138 rfl) (mw hZ hw 139 rfl) (notFace_of_selects (args := #[]) (mw hZ hw 141 rfl)) (mw hZ hw 141 rfl) (mw hZ hw 140 rfl) (by decide) (backOf (W := 0) (rm_eqP l Z a0 hw [] a775 T988.heap n0 (Nat.le_trans Z0 Ex989.1)) hZ (wq hw 142 rfl) (wq hw 6 rfl) (by decide) (by decide)) q996a q996c (g := (mkF m 130 #[vI pa, vI pb, vI pc, vI pd, vI pk, vR a770, vR a772, vR a775, vR a779, vI (3 : Int32), vR a934, vR a775, vR a975, .unset, .unset, .unset] [(.ref a775), (.ref a775)])) rfl (by rw [hml]; rfl) (Steps.refl _) (argsL := [(.ref a775)]) (rest := []) (lenOf pd_32 rfl) rfl (w0 rfl) (dq (dg dlw 65 rfl)) (fun _ _ => ⟨rfl, e995, (by decide : 15 + 0 ≤ _), (by decide : 47 + 0 ≤ _)⟩)
    dsimp only [Pt.U, Pt.locs, Pt.cells, Pt.slots] at X996 l996 y996 z996 st996 hQ996
    subst l996 y996 z996
    obtain ⟨rfl, Nq996, e996⟩ := hQ996
    have N996 := Fr.app N995 Nq996
    refine R2 st996 ?_
    show Rch p e below T996 (mkF m 133 #[vI pa, vI pb, vI pc, vI pd, vI pk, vR a770, vR a772, vR a775, vR a779, vI (3 : Int32), vR a934, vR a775, vR a975, .unset, .unset, .unset] [(.int (1 : Int32))]) _
    refine R1 (XS.istore X996.here hx rfl (dq (dg dlw 66 rfl)) rfl (l' := #[vI pa, vI pb, vI pc, vI pd, vI pk, vR a770, vR a772, vR a775, vR a779, vI (3 : Int32), vR a934, vR a775, vR a975, vI (1 : Int32), .unset, .unset]) rfl) ?_
    refine R1 (XS.aload X996.here hx rfl (dq (dg dlw 67 rfl)) rfl rfl) ?_
    refine R1 (XS.aload X996.here hx rfl (dq (dg dlw 68 rfl)) rfl rfl) ?_
    refine R1 (XS.aload X996.here hx rfl (dq (dg dlw 69 rfl)) rfl rfl) ?_
    show Rch p e below T996 (mkF m 141 #[vI pa, vI pb, vI pc, vI pd, vI pk, vR a770, vR a772, vR a775, vR a779, vI (3 : Int32), vR a934, vR a775, vR a975, vI (1 : Int32), .unset, .unset] [(.ref a779), (.ref a975), (.ref a779)]) _
    obtain ⟨cq997, kq997, q997a, q997b, q997c⟩ := isOf hZ e996 G988.1
    obtain ⟨_, _, ⟨T997, L997, k997, n997⟩, -, X997, ⟨Lc997, hQ997, l997, y997, z997⟩, st997⟩ := X996.virtualBack hx (y := mN69) (z := mN69) hown (mw hZ hw 143 rfl) (mw hZ hw 144 rfl) (notFace_of_selects (args := #[]) (mw hZ hw 146 rfl)) (mw hZ hw 146 rfl) (mw hZ hw 145 rfl) (by decide) (backOf (W := 1) (rm_th3 l Z a0 hw [] a975 a934 a770 a779 ea951 mr a770 a772 a775 m770 m779 T988.heap n0 (Nat.le_trans Z0 Ex989.1) G988 (AL969.ext Ex994) MR (S770.ext Ex990) (S779.ext Ex993) ml770 ml779 (CS.ext Ex989) ((S770.ext Ex990).exa) ((S772.ext Ex991).exa) ((S775.ext Ex992).exa)) hZ (wq hw 147 rfl) (wq hw 88 rfl) (by decide) (by decide)) q997a q997c (g := (mkF m 141 #[vI pa, vI pb, vI pc, vI pd, vI pk, vR a770, vR a772, vR a775, vR a779, vI (3 : Int32), vR a934, vR a775, vR a975, vI (1 : Int32), .unset, .unset] [(.ref a779), (.ref a975), (.ref a779)])) rfl (by rw [hml]; rfl) (Steps.refl _) (argsL := [(.ref a779)]) (rest := [(.ref a779)]) (lenOf pd_41 rfl) rfl (w0 rfl) (dq (dg dlw 70 rfl)) (fun _ _ => ⟨rfl, e996, (by decide : 15 + 11 ≤ _), (by decide : 47 + 63 ≤ _)⟩)
    dsimp only [Pt.U, Pt.locs, Pt.cells, Pt.slots] at X997 l997 y997 z997 st997 hQ997
    subst l997 y997 z997
    obtain ⟨r997, t997, u997, rfl, Nq997, E997, G997, R997⟩ := hQ997
    have N997 := Fr.app N996 Nq997
    have Ex998 : Ext h0 T997.heap := Ex989.tr E997
    have Ex999 : Ext T770.heap T997.heap := Ex990.tr E997
    have Ex1000 : Ext T772.heap T997.heap := Ex991.tr E997
    have Ex1001 : Ext T775.heap T997.heap := Ex992.tr E997
    have Ex1002 : Ext T779.heap T997.heap := Ex993.tr E997
    have Ex1003 : Ext T969.heap T997.heap := Ex994.tr E997
    have Ex1004 : Ext T988.heap T997.heap := E997
    refine R2 st997 ?_
    show Rch p e below T997 (mkF m 144 #[vI pa, vI pb, vI pc, vI pd, vI pk, vR a770, vR a772, vR a775, vR a779, vI (3 : Int32), vR a934, vR a775, vR a975, vI (1 : Int32), .unset, .unset] [(.ref r997), (.ref a779)]) _
    obtain ⟨cq1005, kq1005, q1005a, q1005b, q1005c⟩ := isOf hZ rfl G997.1
    obtain ⟨_, _, ⟨T1005, L1005, k1005, n1005⟩, -, X1005, ⟨Lc1005, hQ1005, l1005, y1005, z1005⟩, st1005⟩ := X997.virtualBack hx (y := mN65) (z := mN65) hown (mw hZ hw 102 rfl) (mw hZ hw 103 rfl) (notFace_of_selects (args := #[]) (mw hZ hw 105 rfl)) (mw hZ hw 105 rfl) (mw hZ hw 104 rfl) (by decide) (backOf (W := 1) (rm_lastN l Z a0 hw [] r997 t997 u997 a779 (4 : Int32) [(.ref a770), (.ref a772), (.ref a775), (.ref a779)] T997.heap n0 (Nat.le_trans Z0 Ex998.1) G997 R997 ⟨by decide, by decide⟩ rfl ((S779.ext Ex1002).exa)) hZ (wq hw 106 rfl) (wq hw 88 rfl) (by decide) (by decide)) q1005a q1005c (g := (mkF m 144 #[vI pa, vI pb, vI pc, vI pd, vI pk, vR a770, vR a772, vR a775, vR a779, vI (3 : Int32), vR a934, vR a775, vR a975, vI (1 : Int32), .unset, .unset] [(.ref r997), (.ref a779)])) rfl (by rw [hml]; rfl) (Steps.refl _) (argsL := []) (rest := [(.ref a779)]) (lenOf pd_35 rfl) rfl (w0 rfl) (dq (dg dlw 71 rfl)) (fun _ _ => ⟨rfl, rfl, (by decide : 26 + 0 ≤ _), (by decide : 110 + 0 ≤ _)⟩)
    dsimp only [Pt.U, Pt.locs, Pt.cells, Pt.slots] at X1005 l1005 y1005 z1005 st1005 hQ1005
    subst l1005 y1005 z1005
    obtain ⟨rfl, Nq1005, e1005⟩ := hQ1005
    have N1005 := Fr.app N997 Nq1005
    refine R2 st1005 ?_
    show Rch p e below T1005 (mkF m 147 #[vI pa, vI pb, vI pc, vI pd, vI pk, vR a770, vR a772, vR a775, vR a779, vI (3 : Int32), vR a934, vR a775, vR a975, vI (1 : Int32), .unset, .unset] [(.ref a779), (.ref a779)]) _
    obtain ⟨cq1006, kq1006, q1006a, q1006b, q1006c⟩ := isOf hZ e1005 (S779.ext Ex1002).exa
    obtain ⟨_, _, ⟨T1006, L1006, k1006, n1006⟩, -, X1006, ⟨Lc1006, hQ1006, l1006, y1006, z1006⟩, st1006⟩ := X1005.virtualBack hx (y := mN68) (z := mN68) hown (mw hZ hw 138 rfl) (mw hZ hw 139 rfl) (notFace_of_selects (args := #[]) (mw hZ hw 141 rfl)) (mw hZ hw 141 rfl) (mw hZ hw 140 rfl) (by decide) (backOf (W := 0) (rm_eqP l Z a0 hw [] a779 T997.heap n0 (Nat.le_trans Z0 Ex998.1)) hZ (wq hw 142 rfl) (wq hw 6 rfl) (by decide) (by decide)) q1006a q1006c (g := (mkF m 147 #[vI pa, vI pb, vI pc, vI pd, vI pk, vR a770, vR a772, vR a775, vR a779, vI (3 : Int32), vR a934, vR a775, vR a975, vI (1 : Int32), .unset, .unset] [(.ref a779), (.ref a779)])) rfl (by rw [hml]; rfl) (Steps.refl _) (argsL := [(.ref a779)]) (rest := []) (lenOf pd_32 rfl) rfl (w0 rfl) (dq (dg dlw 72 rfl)) (fun _ _ => ⟨rfl, e1005, (by decide : 26 + 0 ≤ _), (by decide : 110 + 0 ≤ _)⟩)
    dsimp only [Pt.U, Pt.locs, Pt.cells, Pt.slots] at X1006 l1006 y1006 z1006 st1006 hQ1006
    subst l1006 y1006 z1006
    obtain ⟨rfl, Nq1006, e1006⟩ := hQ1006
    have N1006 := Fr.app N1005 Nq1006
    refine R2 st1006 ?_
    show Rch p e below T1006 (mkF m 150 #[vI pa, vI pb, vI pc, vI pd, vI pk, vR a770, vR a772, vR a775, vR a779, vI (3 : Int32), vR a934, vR a775, vR a975, vI (1 : Int32), .unset, .unset] [(.int (1 : Int32))]) _
    refine R1 (XS.istore X1006.here hx rfl (dq (dg dlw 73 rfl)) rfl (l' := #[vI pa, vI pb, vI pc, vI pd, vI pk, vR a770, vR a772, vR a775, vR a779, vI (3 : Int32), vR a934, vR a775, vR a975, vI (1 : Int32), vI (1 : Int32), .unset]) rfl) ?_
    refine R1 (XS.aload X1006.here hx rfl (dq (dg dlw 74 rfl)) rfl rfl) ?_
    refine R1 (XS.aload X1006.here hx rfl (dq (dg dlw 75 rfl)) rfl rfl) ?_
    refine R1 (XS.aload X1006.here hx rfl (dq (dg dlw 76 rfl)) rfl rfl) ?_
    show Rch p e below T1006 (mkF m 158 #[vI pa, vI pb, vI pc, vI pd, vI pk, vR a770, vR a772, vR a775, vR a779, vI (3 : Int32), vR a934, vR a775, vR a975, vI (1 : Int32), vI (1 : Int32), .unset] [(.ref a975), (.ref a779), (.ref a775)]) _
    obtain ⟨_, _, ⟨T1007, L1007, k1007, n1007⟩, -, X1007, ⟨Lc1007, hQ1007, l1007, y1007, z1007⟩, st1007⟩ := Jvm.LawKit.callS X1006 hx (y := mN72) hown (mw hZ hw 378 rfl) (mw hZ hw 379 rfl) (mw hZ hw 88 rfl) (mw hZ hw 380 rfl) (by decide) (backOf (W := 1) (rm_of3 l Z a0 hw [] a975 a934 a770 a779 ea951 mr a770 a772 a775 m770 m779 T997.heap n0 (Nat.le_trans Z0 Ex998.1) (G988.ext Ex1004) (AL969.ext Ex1003) MR (S770.ext Ex999) (S779.ext Ex1002) ml770 ml779 (CS.ext Ex998) ((S770.ext Ex999).exa) ((S772.ext Ex1000).exa) ((S775.ext Ex1001).exa)) hZ (wq hw 380 rfl) (wq hw 88 rfl) (by decide) (by decide)) (g := (mkF m 158 #[vI pa, vI pb, vI pc, vI pd, vI pk, vR a770, vR a772, vR a775, vR a779, vI (3 : Int32), vR a934, vR a775, vR a975, vI (1 : Int32), vI (1 : Int32), .unset] [(.ref a975), (.ref a779), (.ref a775)])) rfl (by rw [hml]; rfl) (argsL := [(.ref a779), (.ref a975)]) (rest := [(.ref a775)]) (lenOf pd_42 rfl) rfl (w0 rfl) (dq (dg dlw 77 rfl)) (fun _ _ => ⟨rfl, e1006, (by decide : 26 + 11 ≤ _), (by decide : 110 + 63 ≤ _)⟩)
    dsimp only [Pt.U, Pt.locs, Pt.cells, Pt.slots] at X1007 l1007 y1007 z1007 st1007 hQ1007
    subst l1007 y1007 z1007
    obtain ⟨r1007, t1007, u1007, rfl, Nq1007, E1007, G1007, R1007⟩ := hQ1007
    have N1007 := Fr.app N1006 Nq1007
    have Ex1008 : Ext h0 T1007.heap := Ex998.tr E1007
    have Ex1011 : Ext T775.heap T1007.heap := Ex1001.tr E1007
    refine R0_ st1007 ?_
    show Rch p e below T1007 (mkF m 161 #[vI pa, vI pb, vI pc, vI pd, vI pk, vR a770, vR a772, vR a775, vR a779, vI (3 : Int32), vR a934, vR a775, vR a975, vI (1 : Int32), vI (1 : Int32), .unset] [(.ref r1007), (.ref a775)]) _
    obtain ⟨cq1016, kq1016, q1016a, q1016b, q1016c⟩ := isOf hZ rfl G1007.1
    obtain ⟨_, _, ⟨T1016, L1016, k1016, n1016⟩, -, X1016, ⟨Lc1016, hQ1016, l1016, y1016, z1016⟩, st1016⟩ := X1007.virtualBack hx (y := mN65) (z := mN65) hown (mw hZ hw 102 rfl) (mw hZ hw 103 rfl) (notFace_of_selects (args := #[]) (mw hZ hw 105 rfl)) (mw hZ hw 105 rfl) (mw hZ hw 104 rfl) (by decide) (backOf (W := 1) (rm_lastN l Z a0 hw [] r1007 t1007 u1007 a775 (4 : Int32) [(.ref a779), (.ref a770), (.ref a772), (.ref a775)] T1007.heap n0 (Nat.le_trans Z0 Ex1008.1) G1007 R1007 ⟨by decide, by decide⟩ rfl ((S775.ext Ex1011).exa)) hZ (wq hw 106 rfl) (wq hw 88 rfl) (by decide) (by decide)) q1016a q1016c (g := (mkF m 161 #[vI pa, vI pb, vI pc, vI pd, vI pk, vR a770, vR a772, vR a775, vR a779, vI (3 : Int32), vR a934, vR a775, vR a975, vI (1 : Int32), vI (1 : Int32), .unset] [(.ref r1007), (.ref a775)])) rfl (by rw [hml]; rfl) (Steps.refl _) (argsL := []) (rest := [(.ref a775)]) (lenOf pd_35 rfl) rfl (w0 rfl) (dq (dg dlw 78 rfl)) (fun _ _ => ⟨rfl, rfl, (by decide : 37 + 0 ≤ _), (by decide : 173 + 0 ≤ _)⟩)
    dsimp only [Pt.U, Pt.locs, Pt.cells, Pt.slots] at X1016 l1016 y1016 z1016 st1016 hQ1016
    subst l1016 y1016 z1016
    obtain ⟨rfl, Nq1016, e1016⟩ := hQ1016
    have N1016 := Fr.app N1007 Nq1016
    refine R2 st1016 ?_
    show Rch p e below T1016 (mkF m 164 #[vI pa, vI pb, vI pc, vI pd, vI pk, vR a770, vR a772, vR a775, vR a779, vI (3 : Int32), vR a934, vR a775, vR a975, vI (1 : Int32), vI (1 : Int32), .unset] [(.ref a775), (.ref a775)]) _
    obtain ⟨cq1017, kq1017, q1017a, q1017b, q1017c⟩ := isOf hZ e1016 (S775.ext Ex1011).exa
    obtain ⟨_, _, ⟨T1017, L1017, k1017, n1017⟩, -, X1017, ⟨Lc1017, hQ1017, l1017, y1017, z1017⟩, st1017⟩ := X1016.virtualBack hx (y := mN68) (z := mN68) hown (mw hZ hw 138 rfl) (mw hZ hw 139 rfl) (notFace_of_selects (args := #[]) (mw hZ hw 141 rfl)) (mw hZ hw 141 rfl) (mw hZ hw 140 rfl) (by decide) (backOf (W := 0) (rm_eqP l Z a0 hw [] a775 T1007.heap n0 (Nat.le_trans Z0 Ex1008.1)) hZ (wq hw 142 rfl) (wq hw 6 rfl) (by decide) (by decide)) q1017a q1017c (g := (mkF m 164 #[vI pa, vI pb, vI pc, vI pd, vI pk, vR a770, vR a772, vR a775, vR a779, vI (3 : Int32), vR a934, vR a775, vR a975, vI (1 : Int32), vI (1 : Int32), .unset] [(.ref a775), (.ref a775)])) rfl (by rw [hml]; rfl) (Steps.refl _) (argsL := [(.ref a775)]) (rest := []) (lenOf pd_32 rfl) rfl (w0 rfl) (dq (dg dlw 79 rfl)) (fun _ _ => ⟨rfl, e1016, (by decide : 37 + 0 ≤ _), (by decide : 173 + 0 ≤ _)⟩)
    dsimp only [Pt.U, Pt.locs, Pt.cells, Pt.slots] at X1017 l1017 y1017 z1017 st1017 hQ1017
    subst l1017 y1017 z1017
    obtain ⟨rfl, Nq1017, e1017⟩ := hQ1017
    have N1017 := Fr.app N1016 Nq1017
    refine R2 st1017 ?_
    show Rch p e below T1017 (mkF m 167 #[vI pa, vI pb, vI pc, vI pd, vI pk, vR a770, vR a772, vR a775, vR a779, vI (3 : Int32), vR a934, vR a775, vR a975, vI (1 : Int32), vI (1 : Int32), .unset] [(.int (1 : Int32))]) _
    refine R1 (XS.istore X1017.here hx rfl (dq (dg dlw 80 rfl)) rfl (l' := #[vI pa, vI pb, vI pc, vI pd, vI pk, vR a770, vR a772, vR a775, vR a779, vI (3 : Int32), vR a934, vR a775, vR a975, vI (1 : Int32), vI (1 : Int32), vI (1 : Int32)]) rfl) ?_
    refine R1 (XS.iload X1017.here hx rfl (dq (dg dlw 81 rfl)) rfl) ?_
    refine R1 (XS.ifNo X1017.here hx rfl (dq (dg dlw 82 rfl)) rfl (by decide : ifCond.holds .eq (1 : Int32) = false)) ?_
    refine R1 (XS.iload X1017.here hx rfl (dq (dg dlw 83 rfl)) rfl) ?_
    show Rch p e below T1017 (mkF m 176 #[vI pa, vI pb, vI pc, vI pd, vI pk, vR a770, vR a772, vR a775, vR a779, vI (3 : Int32), vR a934, vR a775, vR a975, vI (1 : Int32), vI (1 : Int32), vI (1 : Int32)] [(.int (1 : Int32))]) _
    refine R1 (XS.ifNo X1017.here hx rfl (dq (dg dlw 84 rfl)) rfl (by decide : ifCond.holds .eq (1 : Int32) = false)) ?_
    refine R1 (XS.iload X1017.here hx rfl (dq (dg dlw 85 rfl)) rfl) ?_
    refine R1 (XS.ifNo X1017.here hx rfl (dq (dg dlw 86 rfl)) rfl (by decide : ifCond.holds .eq (1 : Int32) = false)) ?_
    refine R1 (XS.iconst X1017.here hx rfl (dq (dg dlw 87 rfl)) ) ?_
    show Rch p e below T1017 (mkF m 185 #[vI pa, vI pb, vI pc, vI pd, vI pk, vR a770, vR a772, vR a775, vR a779, vI (3 : Int32), vR a934, vR a775, vR a975, vI (1 : Int32), vI (1 : Int32), vI (1 : Int32)] [(.int (1 : Int32))]) _
    refine R1 (XS.goto X1017.here hx rfl (pc0 := 185) (pc' := 189) rfl (dq (dg dlw 88 rfl)) (by decide) (by decide)) ?_
    show Rch p e below T1017 (mkF m 189 #[vI pa, vI pb, vI pc, vI pd, vI pk, vR a770, vR a772, vR a775, vR a779, vI (3 : Int32), vR a934, vR a775, vR a975, vI (1 : Int32), vI (1 : Int32), vI (1 : Int32)] [(.int (1 : Int32))]) _
    exact Rch.fin (Q := Q_law Z pa pb pc pd pk da em mr h0 n0) X1017 (v := some (.int (1 : Int32))) (fun h => by rw [Bd.returns] at h; cases h) (BodyLoose.notSynchronized Bd) (fun fs hr => retN X1017 hx (t := .boolean) Bd.returns (by simp) (dq (dg dlw 89 rfl)) hr) (by rw [e1017]; exact ⟨rfl, N1017⟩) (by decide) (by decide)
set_option maxRecDepth 65536 in
set_option maxHeartbeats 40000000 in
theorem comes_1 {Post : Tables → Env → Array Value → State → Outcome → State → Prop} (hpost : ∀ tb e args s v u, (limb_1_1.after args s (.returned v) u = true ∧ limb_1_2.after args s (.returned v) u = true ∧ True) → FrameEnd s (.returned v) u (Jvm.fieldLocs frame_1_writes args s ++ Jvm.arrayLocs frame_1_arrays args s ++ Jvm.staticLocs frame_1_statics s) 88 384 → Post tb e args s (.returned v) u) :
    ArmFor flags0 classFile x code maxLocals ret World_1 tables_1 room_1 Calls_1 rest_1 Pre_1 Post := by
  intro l hfl _ _ p e ha hc hk s m args below hf hA hF happ hP
  obtain ⟨hcalls, hrest, hpre⟩ := hP
  obtain ⟨-, -, -, hnamed, -, -, -, hat⟩ := (Spec.applies_iff hf).mp happ
  obtain ⟨hg, hn⟩ := and_e (Cond.before_iff.mp (show (Jvm.Cond.and given_1 narrow_1).before args s = true from hpre))
  obtain ⟨g_0, gr_0⟩ := and_e hg
  obtain ⟨g_1, gr_1⟩ := and_e gr_0
  obtain ⟨g_2, gr_2⟩ := and_e gr_1
  obtain ⟨g_3, gr_3⟩ := and_e gr_2
  obtain ⟨g_4, gr_4⟩ := and_e gr_3
  obtain ⟨w0, w1, w2, w3, w4, rfl⟩ : ∃ w0 w1 w2 w3 w4 : Value, args = #[w0, w1, w2, w3, w4] := by
    have hs : args.size = 5 := by simpa [Cond.value, given_1] using g_0
    obtain ⟨L⟩ := args
    match L, hs with
    | [w0, w1, w2, w3, w4], _ => exact ⟨w0, w1, w2, w3, w4, rfl⟩
  have hw := fun d (hd : d ∈ tables_1) => atoms_spec (ws := Jvm.Cond.code x code maxLocals ret :: tables_1) hat d (List.mem_cons_of_mem _ hd)
  obtain ⟨hsets, hown0⟩ := atoms_of _ (rest_1_c_eq ▸ (show rest_1_c.before _ s = true from hrest))
  have hfit : Fit s := fun {y c} hc i hi => by
    obtain ⟨ha, rfl⟩ := Array.getElem?_eq_some_iff.mp hc
    have q := List.all_eq_true.mp ((Array.all_eq_true_iff_forall_mem.mp hF) _ (Array.getElem_mem ha)) i (List.mem_range.mpr hi)
    simpa [Array.getElem?_eq_getElem hi] using q
  obtain ⟨v0, ev0⟩ := is_v g_1
  obtain rfl : w0 = (.int v0) := Option.some.inj ev0
  obtain ⟨v1, ev1⟩ := is_v g_2
  obtain rfl : w1 = (.int v1) := Option.some.inj ev1
  obtain ⟨v2, ev2⟩ := is_v g_3
  obtain rfl : w2 = (.int v2) := Option.some.inj ev2
  obtain ⟨v3, ev3⟩ := is_v g_4
  obtain rfl : w3 = (.int v3) := Option.some.inj ev3
  obtain ⟨v4, ev4⟩ := is_v gr_4
  obtain rfl : w4 = (.int v4) := Option.some.inj ev4
  obtain ⟨i7, e6⟩ := is_v (Cond.before_iff.mp (hsets _ (List.mem_of_getElem? (i := 1) rfl)))
  have n3 := not_v (Cond.before_iff.mp (hsets _ (List.mem_of_getElem? (i := 2) rfl)))
  have S8 : Sta s s.heap "java/lang/String" "COMPACT_STRINGS" "Z" (.int i7) := Sta.start e6 (Or.inl (hsets _ (List.mem_of_getElem? (i := 0) rfl)))
  have c13 : ¬ (i7 = (0 : Int32)) := gotF (Cond.eq_ints e6 (Term.int_eval (0))) n3
  have hcs : Cmp s s.heap := ⟨i7, S8, c13⟩
  obtain ⟨da, eda⟩ := exa_v (Cond.before_iff.mp (hsets _ (List.mem_of_getElem? (i := 16) rfl)))
  have DS := Sta.start eda (Or.inr ⟨(wq hw 33 rfl), (hsets _ (List.mem_of_getElem? (i := 11) rfl))⟩)
  have EDA := Exa.start eda (Cond.before_iff.mp (hsets _ (List.mem_of_getElem? (i := 16) rfl)))
  obtain ⟨cda, ADA⟩ := Arr.start eda (Cond.before_iff.mp (hsets _ (List.mem_of_getElem? (i := 15) rfl)))
  obtain ⟨lda, zda⟩ := len_is eda ADA.1 (Cond.before_iff.mp (hsets _ (List.mem_of_getElem? (i := 17) rfl)))
  have DA : Oar s s.heap da 0 [] := ⟨EDA, cda.cls, Arv.start (vs := []) hfit ADA lda zda (by decide) rfl trivial, ovr_start (wq hw 84 rfl) EDA ADA⟩
  obtain ⟨em, eem⟩ := exa_v (Cond.before_iff.mp (hsets _ (List.mem_of_getElem? (i := 20) rfl)))
  have EMS := Sta.start eem (Or.inl (hsets _ (List.mem_of_getElem? (i := 19) rfl)))
  have EME := Exa.start eem (Cond.before_iff.mp (hsets _ (List.mem_of_getElem? (i := 20) rfl)))
  obtain ⟨cmr, kmr, mr, m1, m2, m3, -⟩ := hcalls.1
  obtain ⟨n, o, h1, h2, h3, _, L, rfl, ⟨rfl, N⟩, hq⟩ := rm_law l s _ hw tables_1 v0 v1 v2 v3 v4 da em mr s.heap s.heap.size (Nat.le_refl _) hcs DS DA (exa_of EDA) EMS EME ⟨cmr, kmr, m1, m2, m3⟩ p e ha hc hk s m _ below hf ((Spec.applies_iff_loose hf).mp happ).1 ⟨rfl, State.Warmed39.refl s, rfl⟩ trivial
  refine ⟨n, _, h1, h2, h3, hpost _ _ _ _ _ _ ⟨Cond.after_iff.mpr rfl, Cond.after_iff.mpr (eq_i res_at (Term.int_eval (1)) rfl), trivial⟩ ⟨hq.1, hq.2.1, (hq.2.2.sift fun y hy => Or.inr (N y hy)).mono (by decide) (by decide)⟩⟩
theorem main_1_1 : Claimed_1_1 := comes_1 fun _ _ _ _ _ _ h hF => ⟨h.1, hF⟩
theorem main_1_2 : Claimed_1_2 := comes_1 fun _ _ _ _ _ _ h hF => ⟨h.2.1, hF⟩
end Jvm.Pilot.@@N@@
namespace Jvm.Pilot.@@N@@
open Jvm Jvm.ClassFile Sem Op Lib Jvm.Free Jvm.Stand Jvm.Pilot.@@N@@.Jvm.D
/-! MADE BY PROGRAM (witnessworld.py) out of the Statement's table words and the real class files: 43 classes; the members and pool entries that the words name. The judged class is class 1, her method 2. -/
namespace start1
open Jvm.ClassFile
def u (s : String) : CpInfo := .utf8 (stringToUtf16 s)
/-- a pool by its gaps: so many unusable entries, then the entry; so many at the end -/
def gap : Nat → List CpInfo → List CpInfo
  | 0, r => r
  | n + 1, r => .unusable :: gap n r
def poolList (es : List (Nat × CpInfo)) (last : Nat) : List CpInfo := es.foldr (fun e r => gap e.1 (e.2 :: r)) (gap last [])
def pool (es : List (Nat × CpInfo)) (last : Nat) : Array CpInfo := ⟨poolList es last⟩
def fileOf (pool : Array CpInfo) (this : Nat) (attrs : Array Attribute := #[]) (ms : Array MethodInfo := #[]) (fl : Nat := 33) (sup : Nat := 0) (ifs : Array Nat := #[]) (fds : Array FieldInfo := #[]) : ClassFile where
  minorVersion := 0
  majorVersion := 65
  constantPool := pool
  accessFlags := fl
  thisClass := this
  superClass := sup
  interfaces := ifs
  fields := fds
  methods := ms
  attributes := attrs
def plain (name : String) (sup : Option ClassId) : Class where
  name := name
  kind := .ordinary
  loader := none
  accessFlags := 33
  super := sup
  interfaces := #[]
  cf := none
  fields := #[]
  methods := #[]
  instanceTypes := #[]
  staticTypes := #[]
  resolved := #[]
  callSites := []
  init := .initialized
  statics := none
  mirror := none

def pool0 : Array CpInfo := pool [(5, u "<init>"), (0, u "()V"), (1, .class_ 10), (1, u "java/lang/Object"), (0, u "getClass"), (0, u "()Ljava/lang/Class;")] 111

def k0c0 : Code := { maxStack := 0, maxLocals := 1, code := object_method_1_code, exceptionTable := #[], attributes := #[] }
def k0m0 : Method := { name := "<init>", desc := "()V", sig := { parameters := [], returnType := none }, accessFlags := 1, code := some k0c0 }
def k0m1 : Method := { name := "getClass", desc := "()Ljava/lang/Class;", sig := { parameters := [], returnType := some (.object "java/lang/Class") }, accessFlags := 273, code := none }
/-- java/lang/Object -/
def k0 : Class := { plain "java/lang/Object" none with
  accessFlags := 33
  interfaces := #[]
  cf := some (fileOf pool0 8 #[] #[{ accessFlags := 1, nameIndex := 5, descriptorIndex := 6, attributes := #[] }, { accessFlags := 273, nameIndex := 11, descriptorIndex := 12, attributes := #[] }] 33 0 #[] #[])
  fields := #[]
  methods := #[k0m0, k0m1]
  instanceTypes := #[]
  staticTypes := #[]
  resolved := Array.replicate 124 none
  statics := none }

def pool1 : Array CpInfo := pool [(2, .class_ 4), (0, .nameAndType 5 6), (0, u "java/lang/Object"), (0, u "<init>"), (0, u "()V"), (0, .methodref 8 9), (0, .class_ 10), (0, .nameAndType 11 12), (0, u "java/lang/String"), (0, u "valueOf"), (0, u "(C)Ljava/lang/String;"), (0, .methodref 8 14), (0, .nameAndType 5 15), (0, u "([C)V"), (0, .methodref 17 18), (0, .class_ 19), (0, .nameAndType 20 21), (0, u "com/example/ampersat/ampersat/index/ChainLastPinLaw"), (0, u "str"), (0, u "(I)Ljava/lang/String;"), (0, .integer 2147483647), (0, .class_ 24), (0, u "java/util/ArrayList"), (0, .methodref 23 3), (0, .methodref 23 27), (0, .nameAndType 28 29), (0, u "add"), (0, u "(Ljava/lang/Object;)Z"), (0, .class_ 31), (0, u "com/example/ampersat/ampersat/index/MetaChains$Chain"), (0, .methodref 30 33), (0, .nameAndType 5 34), (0, u "(Ljava/util/List;Ljava/lang/String;)V"), (0, .methodref 30 36), (0, .nameAndType 37 38), (0, u "last"), (0, u "()Ljava/lang/String;"), (0, .methodref 8 40), (0, .nameAndType 41 29), (0, u "equals"), (0, .methodref 30 43), (0, .nameAndType 44 45), (0, u "then"), (0, u "(Ljava/lang/String;)Lcom/example/ampersat/ampersat/index/MetaChains$Chain;"), (0, .methodref 30 47), (0, .nameAndType 48 49), (0, u "of"), (0, u "(Ljava/lang/String;Lcom/example/ampersat/ampersat/index/MetaChains$Chain;)Lcom/example/ampersat/ampersat/index/MetaChains$Chain;"), (3, u "law"), (0, u "(IIIII)Z")] 6

def k1m0 : Method := { name := "<init>", desc := "()V", sig := { parameters := [], returnType := none }, accessFlags := 1, code := none }
def k1c1 : Code := { maxStack := 6, maxLocals := 3, code := method_2_code, exceptionTable := #[], attributes := #[] }
def k1m1 : Method := { name := "str", desc := "(I)Ljava/lang/String;", sig := { parameters := [.int], returnType := some (.object "java/lang/String") }, accessFlags := 10, code := some k1c1 }
def k1c2 : Code := { maxStack := 4, maxLocals := 16, code := code, exceptionTable := #[], attributes := #[] }
def k1m2 : Method := { name := "law", desc := "(IIIII)Z", sig := { parameters := [.int, .int, .int, .int, .int], returnType := some .boolean }, accessFlags := 9, code := some k1c2 }
/-- com/example/ampersat/ampersat/index/ChainLastPinLaw -/
def k1 : Class := { plain "com/example/ampersat/ampersat/index/ChainLastPinLaw" (some 0) with
  accessFlags := 49
  interfaces := #[]
  cf := some (fileOf pool1 17 #[] #[{ accessFlags := 1, nameIndex := 5, descriptorIndex := 6, attributes := #[] }, { accessFlags := 10, nameIndex := 20, descriptorIndex := 21, attributes := #[] }, { accessFlags := 9, nameIndex := 53, descriptorIndex := 54, attributes := #[] }] 49 2 #[] #[])
  fields := #[]
  methods := #[k1m0, k1m1, k1m2]
  instanceTypes := #[]
  staticTypes := #[]
  resolved := Array.replicate 61 none
  statics := none }

def pool2 : Array CpInfo := pool [(1, .class_ 2), (0, u "java/io/Serializable"), (0, .class_ 4), (0, u "java/lang/Object")] 2

/-- java/io/Serializable -/
def k2 : Class := { plain "java/io/Serializable" (some 0) with
  accessFlags := 1537
  interfaces := #[]
  cf := some (fileOf pool2 1 #[] #[] 1537 3 #[] #[])
  fields := #[]
  methods := #[]
  instanceTypes := #[]
  staticTypes := #[]
  resolved := Array.replicate 7 none
  statics := none }

def pool3 : Array CpInfo := pool [(1, .class_ 2), (0, u "java/lang/Comparable"), (0, .class_ 4), (0, u "java/lang/Object")] 7

/-- java/lang/Comparable -/
def k3 : Class := { plain "java/lang/Comparable" (some 0) with
  accessFlags := 1537
  interfaces := #[]
  cf := some (fileOf pool3 1 #[] #[] 1537 3 #[] #[])
  fields := #[]
  methods := #[]
  instanceTypes := #[]
  staticTypes := #[]
  resolved := Array.replicate 12 none
  statics := none }

def pool4 : Array CpInfo := pool [(2, .class_ 4), (1, u "java/lang/CharSequence"), (42, .class_ 48), (0, u "java/lang/CharSequence$1CodePointIterator"), (10, .class_ 60), (0, u "java/lang/CharSequence$1CharIterator"), (5, .class_ 67), (0, u "java/lang/Object")] 63

/-- java/lang/CharSequence -/
def k4 : Class := { plain "java/lang/CharSequence" (some 0) with
  accessFlags := 1537
  interfaces := #[]
  cf := some (fileOf pool4 2 #[.nestMembers #[47, 59]] #[] 1537 66 #[] #[])
  fields := #[]
  methods := #[]
  instanceTypes := #[]
  staticTypes := #[]
  resolved := Array.replicate 131 none
  statics := none }

def pool5 : Array CpInfo := pool [(1, .class_ 2), (0, u "java/lang/constant/Constable"), (0, .class_ 4), (0, u "java/lang/Object")] 6

/-- java/lang/constant/Constable -/
def k5 : Class := { plain "java/lang/constant/Constable" (some 0) with
  accessFlags := 1537
  interfaces := #[]
  cf := some (fileOf pool5 1 #[] #[] 1537 3 #[] #[])
  fields := #[]
  methods := #[]
  instanceTypes := #[]
  staticTypes := #[]
  resolved := Array.replicate 11 none
  statics := none }

def pool6 : Array CpInfo := pool [(1, .class_ 2), (0, u "java/lang/constant/ConstantDesc"), (0, .class_ 4), (0, u "java/lang/Object")] 32

/-- java/lang/constant/ConstantDesc -/
def k6 : Class := { plain "java/lang/constant/ConstantDesc" (some 0) with
  accessFlags := 1537
  interfaces := #[]
  cf := some (fileOf pool6 1 #[] #[] 1537 3 #[] #[])
  fields := #[]
  methods := #[]
  instanceTypes := #[]
  staticTypes := #[]
  resolved := Array.replicate 37 none
  statics := none }

def pool7 : Array CpInfo := pool [(1, .methodref 2 3), (0, .class_ 4), (0, .nameAndType 5 6), (0, u "java/lang/Object"), (0, u "<init>"), (0, u "()V"), (2, .fieldref 10 11), (0, .class_ 12), (0, .nameAndType 13 14), (0, u "java/lang/String"), (0, u "value"), (0, u "[B"), (0, .fieldref 10 16), (0, .nameAndType 17 18), (0, u "coder"), (0, u "B"), (2, u "hash"), (0, u "I"), (2, u "hashIsZero"), (0, u "Z"), (0, .methodref 10 28), (0, .nameAndType 5 29), (0, u "([CIILjava/lang/Void;)V"), (8, .fieldref 10 39), (0, .nameAndType 40 26), (0, u "COMPACT_STRINGS"), (1, .class_ 44), (1, u "java/lang/StringUTF16"), (0, u "compress"), (1, .methodref 42 48), (0, .nameAndType 49 50), (0, u "coderFromArrayLen"), (0, u "([BI)B"), (2, u "toBytes"), (0, .methodref 55 56), (0, .class_ 57), (0, .nameAndType 58 59), (0, u "java/util/Arrays"), (0, u "copyOfRange"), (0, u "([BII)[B"), (47, .class_ 109), (1, u "java/lang/StringLatin1"), (32, u "()Z"), (34, .methodref 42 178), (0, .nameAndType 45 179), (0, u "([CII)[B"), (13, .class_ 195), (1, u "java/lang/System"), (13, .methodref 10 210), (0, .nameAndType 5 211), (0, u "([BB)V"), (0, .methodref 193 213), (0, .nameAndType 214 215), (0, u "arraycopy"), (0, u "(Ljava/lang/Object;ILjava/lang/Object;II)V"), (118, u "()I"), (0, .methodref 10 336), (0, .nameAndType 17 337), (0, u "()B"), (2, u "()[B"), (28, u "(C)Z"), (119, .methodref 10 490), (0, .nameAndType 5 491), (0, u "(Ljava/lang/AbstractStringBuilder;Ljava/lang/Void;)V"), (1, .nameAndType 494 142), (0, u "isLatin1"), (11, .nameAndType 507 334), (0, u "length"), (24, u "getBytes"), (10, u "equals"), (5, .methodref 550 506), (0, .class_ 551), (0, u "java/lang/AbstractStringBuilder"), (0, .methodref 550 553), (0, .nameAndType 554 340), (0, u "getValue"), (18, u "(Ljava/lang/Object;)Z"), (1, .class_ 576), (0, u "java/lang/CharSequence"), (22, u "CASE_INSENSITIVE_ORDER"), (0, u "Ljava/util/Comparator;"), (181, u "valueOf"), (0, u "(C)Ljava/lang/String;"), (37, u "([BIB)V"), (188, u "([C)V"), (4, .methodref 107 1016), (0, .nameAndType 1017 369), (0, u "canEncode"), (0, .methodref 107 1019), (0, .nameAndType 53 1020), (0, u "(C)[B"), (26, .methodref 550 493), (53, u "serialPersistentFields"), (0, u "[Ljava/io/ObjectStreamField;"), (0, .class_ 1104), (0, u "java/lang/String$CaseInsensitiveComparator"), (1, .class_ 1107), (0, u "java/io/Serializable"), (0, .class_ 1109), (0, u "java/lang/Comparable"), (0, .class_ 1111), (0, u "java/lang/constant/Constable"), (0, .class_ 1113), (0, u "java/lang/constant/ConstantDesc"), (2, u "serialVersionUID"), (0, u "J"), (3, u "REPL"), (0, u "C"), (2, u "LATIN1"), (1, u "UTF16"), (105, u "(Ljava/lang/StringBuilder;)V")] 217

def k7m0 : Method := { name := "<init>", desc := "()V", sig := { parameters := [], returnType := none }, accessFlags := 1, code := none }
def k7c1 : Code := { maxStack := 5, maxLocals := 2, code := jdk_42_method_3_code, exceptionTable := #[], attributes := #[] }
def k7m1 : Method := { name := "<init>", desc := "([C)V", sig := { parameters := [(.array .char)], returnType := none }, accessFlags := 1, code := some k7c1 }
def k7c2 : Code := { maxStack := 3, maxLocals := 2, code := jdk_42_method_53_code, exceptionTable := #[], attributes := #[] }
def k7m2 : Method := { name := "<init>", desc := "(Ljava/lang/StringBuilder;)V", sig := { parameters := [(.object "java/lang/StringBuilder")], returnType := none }, accessFlags := 1, code := some k7c2 }
def k7c3 : Code := { maxStack := 2, maxLocals := 1, code := jdk_42_method_54_code, exceptionTable := #[], attributes := #[] }
def k7m3 : Method := { name := "length", desc := "()I", sig := { parameters := [], returnType := some .int }, accessFlags := 1, code := some k7c3 }
def k7c4 : Code := { maxStack := 2, maxLocals := 3, code := jdk_42_method_66_code, exceptionTable := #[], attributes := #[] }
def k7m4 : Method := { name := "equals", desc := "(Ljava/lang/Object;)Z", sig := { parameters := [(.object "java/lang/Object")], returnType := some .boolean }, accessFlags := 1, code := some k7c4 }
def k7c5 : Code := { maxStack := 4, maxLocals := 1, code := jdk_42_method_139_code, exceptionTable := #[], attributes := #[] }
def k7m5 : Method := { name := "valueOf", desc := "(C)Ljava/lang/String;", sig := { parameters := [.char], returnType := some (.object "java/lang/String") }, accessFlags := 9, code := some k7c5 }
def k7c6 : Code := { maxStack := 5, maxLocals := 4, code := jdk_42_method_147_code, exceptionTable := #[], attributes := #[] }
def k7m6 : Method := { name := "getBytes", desc := "([BIB)V", sig := { parameters := [(.array .byte), .int, .byte], returnType := none }, accessFlags := 0, code := some k7c6 }
def k7c7 : Code := { maxStack := 4, maxLocals := 6, code := jdk_42_method_149_code, exceptionTable := #[], attributes := #[] }
def k7m7 : Method := { name := "<init>", desc := "([CIILjava/lang/Void;)V", sig := { parameters := [(.array .char), .int, .int, (.object "java/lang/Void")], returnType := none }, accessFlags := 2, code := some k7c7 }
def k7c8 : Code := { maxStack := 5, maxLocals := 5, code := jdk_42_method_150_code, exceptionTable := #[], attributes := #[] }
def k7m8 : Method := { name := "<init>", desc := "(Ljava/lang/AbstractStringBuilder;Ljava/lang/Void;)V", sig := { parameters := [(.object "java/lang/AbstractStringBuilder"), (.object "java/lang/Void")], returnType := none }, accessFlags := 0, code := some k7c8 }
def k7c9 : Code := { maxStack := 2, maxLocals := 3, code := jdk_42_method_151_code, exceptionTable := #[], attributes := #[] }
def k7m9 : Method := { name := "<init>", desc := "([BB)V", sig := { parameters := [(.array .byte), .byte], returnType := none }, accessFlags := 0, code := some k7c9 }
def k7c10 : Code := { maxStack := 1, maxLocals := 1, code := jdk_42_method_152_code, exceptionTable := #[], attributes := #[] }
def k7m10 : Method := { name := "coder", desc := "()B", sig := { parameters := [], returnType := some .byte }, accessFlags := 0, code := some k7c10 }
/-- java/lang/String -/
def k7 : Class := { plain "java/lang/String" (some 0) with
  accessFlags := 49
  interfaces := #[2, 3, 4, 5, 6]
  cf := some (fileOf pool7 10 #[.nestMembers #[1103]] #[{ accessFlags := 1, nameIndex := 5, descriptorIndex := 6, attributes := #[] }, { accessFlags := 1, nameIndex := 5, descriptorIndex := 1010, attributes := #[] }, { accessFlags := 1, nameIndex := 5, descriptorIndex := 1233, attributes := #[] }, { accessFlags := 1, nameIndex := 507, descriptorIndex := 334, attributes := #[] }, { accessFlags := 1, nameIndex := 543, descriptorIndex := 573, attributes := #[] }, { accessFlags := 9, nameIndex := 782, descriptorIndex := 783, attributes := #[] }, { accessFlags := 0, nameIndex := 532, descriptorIndex := 821, attributes := #[] }, { accessFlags := 2, nameIndex := 5, descriptorIndex := 29, attributes := #[] }, { accessFlags := 0, nameIndex := 5, descriptorIndex := 491, attributes := #[] }, { accessFlags := 0, nameIndex := 5, descriptorIndex := 211, attributes := #[] }, { accessFlags := 0, nameIndex := 17, descriptorIndex := 337, attributes := #[] }] 49 2 #[1106, 1108, 575, 1110, 1112] #[{ accessFlags := 18, nameIndex := 13, descriptorIndex := 14, attributes := #[] }, { accessFlags := 18, nameIndex := 17, descriptorIndex := 18, attributes := #[] }, { accessFlags := 2, nameIndex := 21, descriptorIndex := 22, attributes := #[] }, { accessFlags := 2, nameIndex := 25, descriptorIndex := 26, attributes := #[] }, { accessFlags := 26, nameIndex := 1116, descriptorIndex := 1117, attributes := #[] }, { accessFlags := 24, nameIndex := 40, descriptorIndex := 26, attributes := #[] }, { accessFlags := 26, nameIndex := 1101, descriptorIndex := 1102, attributes := #[] }, { accessFlags := 26, nameIndex := 1121, descriptorIndex := 1122, attributes := #[] }, { accessFlags := 25, nameIndex := 599, descriptorIndex := 600, attributes := #[] }, { accessFlags := 24, nameIndex := 1125, descriptorIndex := 18, attributes := #[] }, { accessFlags := 24, nameIndex := 1127, descriptorIndex := 18, attributes := #[] }])
  fields := #[{ name := "value", type := (.array .byte), accessFlags := 18, slot := 0, constantValue := 0 }, { name := "coder", type := .byte, accessFlags := 18, slot := 1, constantValue := 0 }, { name := "hash", type := .int, accessFlags := 2, slot := 2, constantValue := 0 }, { name := "hashIsZero", type := .boolean, accessFlags := 2, slot := 3, constantValue := 0 }, { name := "serialVersionUID", type := .long, accessFlags := 26, slot := 0, constantValue := 0 }, { name := "COMPACT_STRINGS", type := .boolean, accessFlags := 24, slot := 1, constantValue := 0 }, { name := "serialPersistentFields", type := (.array (.object "java/io/ObjectStreamField")), accessFlags := 26, slot := 2, constantValue := 0 }, { name := "REPL", type := .char, accessFlags := 26, slot := 3, constantValue := 0 }, { name := "CASE_INSENSITIVE_ORDER", type := (.object "java/util/Comparator"), accessFlags := 25, slot := 4, constantValue := 0 }, { name := "LATIN1", type := .byte, accessFlags := 24, slot := 5, constantValue := 0 }, { name := "UTF16", type := .byte, accessFlags := 24, slot := 6, constantValue := 0 }]
  methods := #[k7m0, k7m1, k7m2, k7m3, k7m4, k7m5, k7m6, k7m7, k7m8, k7m9, k7m10]
  instanceTypes := #[(.array .byte), .byte, .int, .boolean]
  staticTypes := #[.long, .boolean, (.array (.object "java/io/ObjectStreamField")), .char, (.object "java/util/Comparator"), .byte, .byte]
  resolved := Array.replicate 1451 none
  statics := some 0 }

def pool8 : Array CpInfo := pool [(4, .class_ 6), (1, u "java/lang/Object"), (0, u "<init>"), (0, u "()V"), (5, .class_ 16), (1, u "java/lang/StringLatin1"), (73, u "canEncode"), (14, u "(C)Z"), (15, u "$assertionsDisabled"), (0, u "Z"), (98, .class_ 223), (1, u "java/lang/StringLatin1$LinesSpliterator"), (156, u "toBytes"), (1, u "(C)[B"), (7, .class_ 391), (0, u "java/lang/StringLatin1$CharsSpliterator")] 3

def k8m0 : Method := { name := "<init>", desc := "()V", sig := { parameters := [], returnType := none }, accessFlags := 0, code := none }
def k8c1 : Code := { maxStack := 2, maxLocals := 1, code := jdk_43_method_3_code, exceptionTable := #[], attributes := #[] }
def k8m1 : Method := { name := "canEncode", desc := "(C)Z", sig := { parameters := [.char], returnType := some .boolean }, accessFlags := 9, code := some k8c1 }
def k8c2 : Code := { maxStack := 4, maxLocals := 1, code := jdk_43_method_46_code, exceptionTable := #[], attributes := #[] }
def k8m2 : Method := { name := "toBytes", desc := "(C)[B", sig := { parameters := [.char], returnType := some (.array .byte) }, accessFlags := 9, code := some k8c2 }
/-- java/lang/StringLatin1 -/
def k8 : Class := { plain "java/lang/StringLatin1" (some 0) with
  accessFlags := 48
  interfaces := #[]
  cf := some (fileOf pool8 14 #[.nestMembers #[390, 221]] #[{ accessFlags := 0, nameIndex := 7, descriptorIndex := 8, attributes := #[] }, { accessFlags := 9, nameIndex := 90, descriptorIndex := 105, attributes := #[] }, { accessFlags := 9, nameIndex := 380, descriptorIndex := 382, attributes := #[] }] 48 4 #[] #[{ accessFlags := 4120, nameIndex := 121, descriptorIndex := 122, attributes := #[] }])
  fields := #[{ name := "$assertionsDisabled", type := .boolean, accessFlags := 4120, slot := 0, constantValue := 0 }]
  methods := #[k8m0, k8m1, k8m2]
  instanceTypes := #[]
  staticTypes := #[.boolean]
  resolved := Array.replicate 395 none
  statics := none }

def pool9 : Array CpInfo := pool [(8, .class_ 10), (1, u "java/lang/Iterable"), (24, .class_ 36), (0, u "java/lang/Object")] 25

/-- java/lang/Iterable -/
def k9 : Class := { plain "java/lang/Iterable" (some 0) with
  accessFlags := 1537
  interfaces := #[]
  cf := some (fileOf pool9 8 #[] #[] 1537 35 #[] #[])
  fields := #[]
  methods := #[]
  instanceTypes := #[]
  staticTypes := #[]
  resolved := Array.replicate 62 none
  statics := none }

def pool10 : Array CpInfo := pool [(10, .class_ 12), (1, u "java/util/Collection"), (0, u "toArray"), (16, u "()Z"), (29, .class_ 61), (0, u "java/lang/Object"), (0, .class_ 63), (0, u "java/lang/Iterable"), (2, u "isEmpty"), (3, u "()[Ljava/lang/Object;")] 44

def k10m0 : Method := { name := "isEmpty", desc := "()Z", sig := { parameters := [], returnType := some .boolean }, accessFlags := 1025, code := none }
def k10m1 : Method := { name := "toArray", desc := "()[Ljava/lang/Object;", sig := { parameters := [], returnType := some (.array (.object "java/lang/Object")) }, accessFlags := 1025, code := none }
/-- java/util/Collection -/
def k10 : Class := { plain "java/util/Collection" (some 0) with
  accessFlags := 1537
  interfaces := #[9]
  cf := some (fileOf pool10 10 #[] #[{ accessFlags := 1025, nameIndex := 66, descriptorIndex := 30, attributes := #[] }, { accessFlags := 1025, nameIndex := 13, descriptorIndex := 70, attributes := #[] }] 1537 60 #[62] #[])
  fields := #[]
  methods := #[k10m0, k10m1]
  instanceTypes := #[]
  staticTypes := #[]
  resolved := Array.replicate 115 none
  statics := none }

def pool11 : Array CpInfo := pool [(1, .methodref 2 3), (0, .class_ 4), (0, .nameAndType 5 6), (0, u "java/lang/Object"), (0, u "<init>"), (0, u "()V"), (1, .class_ 10), (1, u "java/util/AbstractCollection"), (66, .class_ 78), (0, u "java/util/Collection")] 81

def k11c0 : Code := { maxStack := 1, maxLocals := 1, code := jdk_22_method_1_code, exceptionTable := #[], attributes := #[] }
def k11m0 : Method := { name := "<init>", desc := "()V", sig := { parameters := [], returnType := none }, accessFlags := 4, code := some k11c0 }
/-- java/util/AbstractCollection -/
def k11 : Class := { plain "java/util/AbstractCollection" (some 0) with
  accessFlags := 1057
  interfaces := #[10]
  cf := some (fileOf pool11 8 #[] #[{ accessFlags := 4, nameIndex := 5, descriptorIndex := 6, attributes := #[] }] 1057 2 #[77] #[])
  fields := #[]
  methods := #[k11m0]
  instanceTypes := #[]
  staticTypes := #[]
  resolved := Array.replicate 160 none
  statics := none }

def pool12 : Array CpInfo := pool [(8, .class_ 10), (1, u "java/util/SequencedCollection"), (15, .class_ 27), (0, u "java/lang/Object"), (0, .class_ 29), (0, u "java/util/Collection")] 27

/-- java/util/SequencedCollection -/
def k12 : Class := { plain "java/util/SequencedCollection" (some 0) with
  accessFlags := 1537
  interfaces := #[10]
  cf := some (fileOf pool12 8 #[] #[] 1537 26 #[28] #[])
  fields := #[]
  methods := #[]
  instanceTypes := #[]
  staticTypes := #[]
  resolved := Array.replicate 57 none
  statics := none }

def pool13 : Array CpInfo := pool [(8, .class_ 10), (1, u "java/util/List"), (37, u "<init>"), (11, u "add"), (3, u "(Ljava/lang/Object;)Z"), (10, u "get"), (0, u "(I)Ljava/lang/Object;"), (2, u "size"), (0, u "()I"), (7, u "of"), (2, .class_ 93), (1, u "java/util/ImmutableCollections"), (2, .class_ 97), (0, u "java/util/ImmutableCollections$List12"), (2, .methodref 96 101), (0, .nameAndType 48 102), (0, u "(Ljava/lang/Object;Ljava/lang/Object;)V"), (0, .class_ 104), (0, u "java/lang/Object"), (3, u "([Ljava/lang/Object;)Ljava/util/List;"), (0, .methodref 91 110), (0, .nameAndType 111 108), (0, u "listFromArray"), (0, .methodref 91 113), (0, .nameAndType 114 115), (0, u "listCopy"), (0, u "(Ljava/util/Collection;)Ljava/util/List;"), (4, .class_ 121), (0, u "java/util/SequencedCollection"), (9, u "(Ljava/util/Collection;)Z"), (1, u "addAll"), (100, u "copyOf")] 16

def k13m0 : Method := { name := "size", desc := "()I", sig := { parameters := [], returnType := some .int }, accessFlags := 1025, code := none }
def k13m1 : Method := { name := "add", desc := "(Ljava/lang/Object;)Z", sig := { parameters := [(.object "java/lang/Object")], returnType := some .boolean }, accessFlags := 1025, code := none }
def k13m2 : Method := { name := "addAll", desc := "(Ljava/util/Collection;)Z", sig := { parameters := [(.object "java/util/Collection")], returnType := some .boolean }, accessFlags := 1025, code := none }
def k13m3 : Method := { name := "get", desc := "(I)Ljava/lang/Object;", sig := { parameters := [.int], returnType := some (.object "java/lang/Object") }, accessFlags := 1025, code := none }
def k13c4 : Code := { maxStack := 5, maxLocals := 2, code := jdk_40_method_47_code, exceptionTable := #[], attributes := #[] }
def k13m4 : Method := { name := "of", desc := "([Ljava/lang/Object;)Ljava/util/List;", sig := { parameters := [(.array (.object "java/lang/Object"))], returnType := some (.object "java/util/List") }, accessFlags := 137, code := some k13c4 }
def k13c5 : Code := { maxStack := 1, maxLocals := 1, code := jdk_40_method_48_code, exceptionTable := #[], attributes := #[] }
def k13m5 : Method := { name := "copyOf", desc := "(Ljava/util/Collection;)Ljava/util/List;", sig := { parameters := [(.object "java/util/Collection")], returnType := some (.object "java/util/List") }, accessFlags := 9, code := some k13c5 }
/-- java/util/List -/
def k13 : Class := { plain "java/util/List" (some 0) with
  accessFlags := 1537
  interfaces := #[12]
  cf := some (fileOf pool13 8 #[] #[{ accessFlags := 1025, nameIndex := 79, descriptorIndex := 80, attributes := #[] }, { accessFlags := 1025, nameIndex := 60, descriptorIndex := 64, attributes := #[] }, { accessFlags := 1025, nameIndex := 133, descriptorIndex := 131, attributes := #[] }, { accessFlags := 1025, nameIndex := 75, descriptorIndex := 76, attributes := #[] }, { accessFlags := 137, nameIndex := 88, descriptorIndex := 108, attributes := #[] }, { accessFlags := 9, nameIndex := 234, descriptorIndex := 115, attributes := #[] }] 1537 103 #[120] #[])
  fields := #[]
  methods := #[k13m0, k13m1, k13m2, k13m3, k13m4, k13m5]
  instanceTypes := #[]
  staticTypes := #[]
  resolved := Array.replicate 251 none
  statics := none }

def pool14 : Array CpInfo := pool [(1, .methodref 2 3), (0, .class_ 4), (0, .nameAndType 5 6), (0, u "java/util/AbstractCollection"), (0, u "<init>"), (0, u "()V"), (0, .fieldref 8 9), (0, .class_ 10), (0, .nameAndType 11 12), (0, u "java/util/AbstractList"), (0, u "modCount"), (0, u "I"), (64, .class_ 78), (0, u "java/util/AbstractList$Itr"), (3, .class_ 83), (0, u "java/util/AbstractList$ListItr"), (9, .class_ 94), (0, u "java/util/AbstractList$RandomAccessSubList"), (3, .class_ 99), (0, u "java/util/AbstractList$SubList"), (33, .class_ 134), (0, u "java/util/List"), (73, .class_ 209), (0, u "java/util/AbstractList$SubList$1"), (0, .class_ 211), (0, u "java/util/AbstractList$RandomAccessSpliterator")] 6

def k14c0 : Code := { maxStack := 2, maxLocals := 1, code := jdk_39_method_1_code, exceptionTable := #[], attributes := #[] }
def k14m0 : Method := { name := "<init>", desc := "()V", sig := { parameters := [], returnType := none }, accessFlags := 4, code := some k14c0 }
/-- java/util/AbstractList -/
def k14 : Class := { plain "java/util/AbstractList" (some 11) with
  accessFlags := 1057
  interfaces := #[13]
  cf := some (fileOf pool14 8 #[.nestMembers #[93, 98, 208, 210, 82, 77]] #[{ accessFlags := 4, nameIndex := 5, descriptorIndex := 6, attributes := #[] }] 1057 2 #[133] #[{ accessFlags := 132, nameIndex := 11, descriptorIndex := 12, attributes := #[] }])
  fields := #[{ name := "modCount", type := .int, accessFlags := 132, slot := 0, constantValue := 0 }]
  methods := #[k14m0]
  instanceTypes := #[.int]
  staticTypes := #[]
  resolved := Array.replicate 218 none
  statics := none }

def pool15 : Array CpInfo := pool [(1, .class_ 2), (0, u "java/util/RandomAccess"), (0, .class_ 4), (0, u "java/lang/Object")] 2

/-- java/util/RandomAccess -/
def k15 : Class := { plain "java/util/RandomAccess" (some 0) with
  accessFlags := 1537
  interfaces := #[]
  cf := some (fileOf pool15 1 #[] #[] 1537 3 #[] #[])
  fields := #[]
  methods := #[]
  instanceTypes := #[]
  staticTypes := #[]
  resolved := Array.replicate 7 none
  statics := none }

def pool16 : Array CpInfo := pool [(1, .class_ 2), (0, u "java/lang/Cloneable"), (0, .class_ 4), (0, u "java/lang/Object")] 2

/-- java/lang/Cloneable -/
def k16 : Class := { plain "java/lang/Cloneable" (some 0) with
  accessFlags := 1537
  interfaces := #[]
  cf := some (fileOf pool16 1 #[] #[] 1537 3 #[] #[])
  fields := #[]
  methods := #[]
  instanceTypes := #[]
  staticTypes := #[]
  resolved := Array.replicate 7 none
  statics := none }

def pool17 : Array CpInfo := pool [(1, .methodref 2 3), (0, .class_ 4), (0, .nameAndType 5 6), (0, u "java/util/AbstractList"), (0, u "<init>"), (0, u "()V"), (0, .class_ 8), (0, u "java/lang/Object"), (0, .fieldref 10 11), (0, .class_ 12), (0, .nameAndType 13 14), (0, u "java/util/ArrayList"), (0, u "elementData"), (0, u "[Ljava/lang/Object;"), (2, u "EMPTY_ELEMENTDATA"), (21, .fieldref 10 40), (0, .nameAndType 41 14), (0, u "DEFAULTCAPACITY_EMPTY_ELEMENTDATA"), (0, .interfaceMethodref 43 44), (0, .class_ 45), (0, .nameAndType 46 47), (0, u "java/util/Collection"), (0, u "toArray"), (0, u "()[Ljava/lang/Object;"), (0, .fieldref 10 49), (0, .nameAndType 50 51), (0, u "size"), (0, u "I"), (6, .class_ 60), (1, u "java/util/Arrays"), (0, u "copyOf"), (1, .fieldref 10 64), (0, .nameAndType 65 51), (0, u "modCount"), (0, .methodref 58 67), (0, .nameAndType 61 68), (0, u "([Ljava/lang/Object;I)[Ljava/lang/Object;"), (0, .methodref 10 70), (0, .nameAndType 71 72), (0, u "grow"), (0, u "(I)[Ljava/lang/Object;"), (6, .methodref 80 81), (0, .class_ 82), (0, .nameAndType 83 84), (0, u "java/lang/Math"), (0, u "max"), (0, u "(II)I"), (11, u "(Ljava/lang/Object;)Z"), (15, .methodref 113 114), (0, .class_ 115), (0, .nameAndType 116 117), (0, u "java/lang/System"), (0, u "arraycopy"), (0, u "(Ljava/lang/Object;ILjava/lang/Object;II)V"), (0, .methodref 119 120), (0, .class_ 121), (0, .nameAndType 122 84), (0, u "java/util/Objects"), (0, u "checkIndex"), (0, .methodref 10 124), (0, .nameAndType 13 125), (0, u "(I)Ljava/lang/Object;"), (3, .methodref 10 130), (0, .nameAndType 71 47), (0, .methodref 10 132), (0, .nameAndType 133 134), (0, u "add"), (0, u "(Ljava/lang/Object;[Ljava/lang/Object;I)V"), (3, u "(I)V"), (9, .class_ 149), (0, u "java/util/List"), (23, u "()Z"), (12, u "()I"), (75, .class_ 263), (0, u "java/util/ArrayList$ListItr"), (3, .class_ 268), (0, u "java/util/ArrayList$Itr"), (7, .class_ 277), (0, u "java/util/ArrayList$SubList"), (12, .class_ 291), (0, u "java/util/ArrayList$ArrayListSpliterator"), (37, .class_ 330), (0, u "java/util/RandomAccess"), (0, .class_ 332), (0, u "java/lang/Cloneable"), (0, .class_ 334), (0, u "java/io/Serializable"), (0, u "serialVersionUID"), (0, u "J"), (3, u "DEFAULT_CAPACITY"), (22, u "isEmpty"), (17, u "get"), (38, u "addAll"), (0, u "(Ljava/util/Collection;)Z"), (78, .class_ 501), (0, u "java/util/ArrayList$SubList$2"), (0, .class_ 503), (0, u "java/util/ArrayList$SubList$1")] 5

def k17c0 : Code := { maxStack := 4, maxLocals := 2, code := jdk_38_method_1_code, exceptionTable := #[], attributes := #[] }
def k17m0 : Method := { name := "<init>", desc := "(I)V", sig := { parameters := [.int], returnType := none }, accessFlags := 1, code := some k17c0 }
def k17c1 : Code := { maxStack := 2, maxLocals := 1, code := jdk_38_method_2_code, exceptionTable := #[], attributes := #[] }
def k17m1 : Method := { name := "<init>", desc := "()V", sig := { parameters := [], returnType := none }, accessFlags := 1, code := some k17c1 }
def k17c2 : Code := { maxStack := 4, maxLocals := 4, code := jdk_38_method_6_code, exceptionTable := #[], attributes := #[] }
def k17m2 : Method := { name := "grow", desc := "(I)[Ljava/lang/Object;", sig := { parameters := [.int], returnType := some (.array (.object "java/lang/Object")) }, accessFlags := 2, code := some k17c2 }
def k17c3 : Code := { maxStack := 3, maxLocals := 1, code := jdk_38_method_7_code, exceptionTable := #[], attributes := #[] }
def k17m3 : Method := { name := "grow", desc := "()[Ljava/lang/Object;", sig := { parameters := [], returnType := some (.array (.object "java/lang/Object")) }, accessFlags := 2, code := some k17c3 }
def k17c4 : Code := { maxStack := 1, maxLocals := 1, code := jdk_38_method_8_code, exceptionTable := #[], attributes := #[] }
def k17m4 : Method := { name := "size", desc := "()I", sig := { parameters := [], returnType := some .int }, accessFlags := 1, code := some k17c4 }
def k17c5 : Code := { maxStack := 1, maxLocals := 1, code := jdk_38_method_9_code, exceptionTable := #[], attributes := #[] }
def k17m5 : Method := { name := "isEmpty", desc := "()Z", sig := { parameters := [], returnType := some .boolean }, accessFlags := 1, code := some k17c5 }
def k17c6 : Code := { maxStack := 2, maxLocals := 1, code := jdk_38_method_16_code, exceptionTable := #[], attributes := #[] }
def k17m6 : Method := { name := "toArray", desc := "()[Ljava/lang/Object;", sig := { parameters := [], returnType := some (.array (.object "java/lang/Object")) }, accessFlags := 1, code := some k17c6 }
def k17c7 : Code := { maxStack := 2, maxLocals := 2, code := jdk_38_method_18_code, exceptionTable := #[], attributes := #[] }
def k17m7 : Method := { name := "elementData", desc := "(I)Ljava/lang/Object;", sig := { parameters := [.int], returnType := some (.object "java/lang/Object") }, accessFlags := 0, code := some k17c7 }
def k17c8 : Code := { maxStack := 2, maxLocals := 2, code := jdk_38_method_20_code, exceptionTable := #[], attributes := #[] }
def k17m8 : Method := { name := "get", desc := "(I)Ljava/lang/Object;", sig := { parameters := [.int], returnType := some (.object "java/lang/Object") }, accessFlags := 1, code := some k17c8 }
def k17c9 : Code := { maxStack := 3, maxLocals := 4, code := jdk_38_method_24_code, exceptionTable := #[], attributes := #[] }
def k17m9 : Method := { name := "add", desc := "(Ljava/lang/Object;[Ljava/lang/Object;I)V", sig := { parameters := [(.object "java/lang/Object"), (.array (.object "java/lang/Object")), .int], returnType := none }, accessFlags := 2, code := some k17c9 }
def k17c10 : Code := { maxStack := 4, maxLocals := 2, code := jdk_38_method_25_code, exceptionTable := #[], attributes := #[] }
def k17m10 : Method := { name := "add", desc := "(Ljava/lang/Object;)Z", sig := { parameters := [(.object "java/lang/Object")], returnType := some .boolean }, accessFlags := 1, code := some k17c10 }
def k17c11 : Code := { maxStack := 5, maxLocals := 6, code := jdk_38_method_41_code, exceptionTable := #[], attributes := #[] }
def k17m11 : Method := { name := "addAll", desc := "(Ljava/util/Collection;)Z", sig := { parameters := [(.object "java/util/Collection")], returnType := some .boolean }, accessFlags := 1, code := some k17c11 }
/-- java/util/ArrayList -/
def k17 : Class := { plain "java/util/ArrayList" (some 14) with
  accessFlags := 33
  interfaces := #[13, 15, 16, 2]
  cf := some (fileOf pool17 10 #[.nestMembers #[290, 276, 500, 502, 262, 267]] #[{ accessFlags := 1, nameIndex := 5, descriptorIndex := 138, attributes := #[] }, { accessFlags := 1, nameIndex := 5, descriptorIndex := 6, attributes := #[] }, { accessFlags := 2, nameIndex := 71, descriptorIndex := 72, attributes := #[] }, { accessFlags := 2, nameIndex := 71, descriptorIndex := 47, attributes := #[] }, { accessFlags := 1, nameIndex := 50, descriptorIndex := 186, attributes := #[] }, { accessFlags := 1, nameIndex := 363, descriptorIndex := 173, attributes := #[] }, { accessFlags := 1, nameIndex := 46, descriptorIndex := 47, attributes := #[] }, { accessFlags := 0, nameIndex := 13, descriptorIndex := 125, attributes := #[] }, { accessFlags := 1, nameIndex := 381, descriptorIndex := 125, attributes := #[] }, { accessFlags := 2, nameIndex := 133, descriptorIndex := 134, attributes := #[] }, { accessFlags := 1, nameIndex := 133, descriptorIndex := 96, attributes := #[] }, { accessFlags := 1, nameIndex := 420, descriptorIndex := 421, attributes := #[] }] 33 2 #[148, 329, 331, 333] #[{ accessFlags := 26, nameIndex := 335, descriptorIndex := 336, attributes := #[] }, { accessFlags := 26, nameIndex := 340, descriptorIndex := 51, attributes := #[] }, { accessFlags := 26, nameIndex := 17, descriptorIndex := 14, attributes := #[] }, { accessFlags := 26, nameIndex := 41, descriptorIndex := 14, attributes := #[] }, { accessFlags := 128, nameIndex := 13, descriptorIndex := 14, attributes := #[] }, { accessFlags := 2, nameIndex := 50, descriptorIndex := 51, attributes := #[] }])
  fields := #[{ name := "serialVersionUID", type := .long, accessFlags := 26, slot := 0, constantValue := 0 }, { name := "DEFAULT_CAPACITY", type := .int, accessFlags := 26, slot := 1, constantValue := 0 }, { name := "EMPTY_ELEMENTDATA", type := (.array (.object "java/lang/Object")), accessFlags := 26, slot := 2, constantValue := 0 }, { name := "DEFAULTCAPACITY_EMPTY_ELEMENTDATA", type := (.array (.object "java/lang/Object")), accessFlags := 26, slot := 3, constantValue := 0 }, { name := "elementData", type := (.array (.object "java/lang/Object")), accessFlags := 128, slot := 1, constantValue := 0 }, { name := "size", type := .int, accessFlags := 2, slot := 2, constantValue := 0 }]
  methods := #[k17m0, k17m1, k17m2, k17m3, k17m4, k17m5, k17m6, k17m7, k17m8, k17m9, k17m10, k17m11]
  instanceTypes := #[.int, (.array (.object "java/lang/Object")), .int]
  staticTypes := #[.long, .int, (.array (.object "java/lang/Object")), (.array (.object "java/lang/Object"))]
  resolved := Array.replicate 509 none
  statics := some 1 }

def pool18 : Array CpInfo := pool [(1, .class_ 2), (0, u "java/lang/Math"), (1, .class_ 6), (1, u "java/lang/Object"), (0, u "<init>"), (0, u "()V"), (89, .class_ 100), (1, u "java/lang/Math$RandomNumberGeneratorHolder"), (71, u "negativeZeroFloatBits"), (0, u "J"), (2, u "negativeZeroDoubleBits"), (21, u "max"), (2, u "min"), (43, u "$assertionsDisabled"), (0, u "Z"), (88, u "(II)I"), (2, u "twoToTheDoubleScaleDown"), (0, u "D"), (4, u "twoToTheDoubleScaleUp"), (9, u "E"), (3, u "PI"), (2, u "TAU"), (2, u "DEGREES_TO_RADIANS"), (0, u "RADIANS_TO_DEGREES")] 94

def k18m0 : Method := { name := "<init>", desc := "()V", sig := { parameters := [], returnType := none }, accessFlags := 2, code := none }
def k18c1 : Code := { maxStack := 2, maxLocals := 2, code := jdk_29_method_65_code, exceptionTable := #[], attributes := #[] }
def k18m1 : Method := { name := "max", desc := "(II)I", sig := { parameters := [.int, .int], returnType := some .int }, accessFlags := 9, code := some k18c1 }
def k18c2 : Code := { maxStack := 2, maxLocals := 2, code := jdk_29_method_69_code, exceptionTable := #[], attributes := #[] }
def k18m2 : Method := { name := "min", desc := "(II)I", sig := { parameters := [.int, .int], returnType := some .int }, accessFlags := 9, code := some k18c2 }
/-- java/lang/Math -/
def k18 : Class := { plain "java/lang/Math" (some 0) with
  accessFlags := 49
  interfaces := #[]
  cf := some (fileOf pool18 1 #[.nestMembers #[98]] #[{ accessFlags := 2, nameIndex := 7, descriptorIndex := 8, attributes := #[] }, { accessFlags := 9, nameIndex := 198, descriptorIndex := 335, attributes := #[] }, { accessFlags := 9, nameIndex := 201, descriptorIndex := 335, attributes := #[] }] 49 4 #[] #[{ accessFlags := 25, nameIndex := 354, descriptorIndex := 339, attributes := #[] }, { accessFlags := 25, nameIndex := 358, descriptorIndex := 339, attributes := #[] }, { accessFlags := 25, nameIndex := 361, descriptorIndex := 339, attributes := #[] }, { accessFlags := 26, nameIndex := 364, descriptorIndex := 339, attributes := #[] }, { accessFlags := 26, nameIndex := 365, descriptorIndex := 339, attributes := #[] }, { accessFlags := 26, nameIndex := 172, descriptorIndex := 173, attributes := #[] }, { accessFlags := 26, nameIndex := 176, descriptorIndex := 173, attributes := #[] }, { accessFlags := 8, nameIndex := 344, descriptorIndex := 339, attributes := #[] }, { accessFlags := 8, nameIndex := 338, descriptorIndex := 339, attributes := #[] }, { accessFlags := 4120, nameIndex := 245, descriptorIndex := 246, attributes := #[] }])
  fields := #[{ name := "E", type := .double, accessFlags := 25, slot := 0, constantValue := 0 }, { name := "PI", type := .double, accessFlags := 25, slot := 1, constantValue := 0 }, { name := "TAU", type := .double, accessFlags := 25, slot := 2, constantValue := 0 }, { name := "DEGREES_TO_RADIANS", type := .double, accessFlags := 26, slot := 3, constantValue := 0 }, { name := "RADIANS_TO_DEGREES", type := .double, accessFlags := 26, slot := 4, constantValue := 0 }, { name := "negativeZeroFloatBits", type := .long, accessFlags := 26, slot := 5, constantValue := 0 }, { name := "negativeZeroDoubleBits", type := .long, accessFlags := 26, slot := 6, constantValue := 0 }, { name := "twoToTheDoubleScaleUp", type := .double, accessFlags := 8, slot := 7, constantValue := 0 }, { name := "twoToTheDoubleScaleDown", type := .double, accessFlags := 8, slot := 8, constantValue := 0 }, { name := "$assertionsDisabled", type := .boolean, accessFlags := 4120, slot := 9, constantValue := 0 }]
  methods := #[k18m0, k18m1, k18m2]
  instanceTypes := #[]
  staticTypes := #[.double, .double, .double, .double, .double, .long, .long, .double, .double, .boolean]
  resolved := Array.replicate 460 none
  statics := none }

def pool19 : Array CpInfo := pool [(1, .methodref 2 3), (0, .class_ 4), (0, .nameAndType 5 6), (0, u "java/lang/Object"), (0, u "<init>"), (0, u "()V"), (0, .class_ 8), (0, u "java/lang/Record")] 13

def k19c0 : Code := { maxStack := 1, maxLocals := 1, code := jdk_30_method_1_code, exceptionTable := #[], attributes := #[] }
def k19m0 : Method := { name := "<init>", desc := "()V", sig := { parameters := [], returnType := none }, accessFlags := 4, code := some k19c0 }
/-- java/lang/Record -/
def k19 : Class := { plain "java/lang/Record" (some 0) with
  accessFlags := 1057
  interfaces := #[]
  cf := some (fileOf pool19 7 #[] #[{ accessFlags := 4, nameIndex := 5, descriptorIndex := 6, attributes := #[] }] 1057 2 #[] #[])
  fields := #[]
  methods := #[k19m0]
  instanceTypes := #[]
  staticTypes := #[]
  resolved := Array.replicate 22 none
  statics := none }

def pool20 : Array CpInfo := pool [(1, .methodref 2 3), (0, .class_ 4), (0, .nameAndType 5 6), (0, u "java/lang/Record"), (0, u "<init>"), (0, u "()V"), (0, .fieldref 8 9), (0, .class_ 10), (0, .nameAndType 11 12), (0, u "com/example/ampersat/ampersat/index/MetaChains$Chain"), (0, u "types"), (0, u "Ljava/util/List;"), (0, .fieldref 8 14), (0, .nameAndType 15 16), (0, u "text"), (0, u "Ljava/lang/String;"), (1, .class_ 20), (1, u "java/util/List"), (0, u "of"), (1, .methodref 8 24), (0, .nameAndType 5 25), (0, u "(Ljava/util/List;Ljava/lang/String;)V"), (0, .class_ 27), (0, u "java/util/ArrayList"), (0, .methodref 8 29), (0, .nameAndType 11 30), (0, u "()Ljava/util/List;"), (0, .interfaceMethodref 18 32), (0, .nameAndType 33 34), (0, u "size"), (0, u "()I"), (0, .methodref 26 36), (0, .nameAndType 5 37), (0, u "(I)V"), (0, .interfaceMethodref 18 39), (0, .nameAndType 40 41), (0, u "add"), (0, u "(Ljava/lang/Object;)Z"), (0, .interfaceMethodref 18 43), (0, .nameAndType 44 45), (0, u "addAll"), (0, u "(Ljava/util/Collection;)Z"), (0, .interfaceMethodref 18 47), (0, .nameAndType 48 49), (0, u "copyOf"), (0, u "(Ljava/util/Collection;)Ljava/util/List;"), (0, .class_ 51), (0, u "java/lang/StringBuilder"), (0, .methodref 50 3), (0, .methodref 50 54), (0, .nameAndType 55 56), (0, u "append"), (0, u "(Ljava/lang/String;)Ljava/lang/StringBuilder;"), (0, .methodref 50 58), (0, .nameAndType 55 59), (0, u "(C)Ljava/lang/StringBuilder;"), (0, .methodref 8 61), (0, .nameAndType 15 62), (0, u "()Ljava/lang/String;"), (0, .methodref 50 64), (0, .nameAndType 65 62), (0, u "toString"), (0, .interfaceMethodref 18 67), (0, .nameAndType 68 69), (0, u "get"), (0, u "(I)Ljava/lang/Object;"), (0, .class_ 71), (0, u "java/lang/String"), (27, u "(Ljava/lang/String;Lcom/example/ampersat/ampersat/index/MetaChains$Chain;)Lcom/example/ampersat/ampersat/index/MetaChains$Chain;"), (1, u "then"), (0, u "(Ljava/lang/String;)Lcom/example/ampersat/ampersat/index/MetaChains$Chain;"), (0, u "last"), (6, .class_ 111), (0, u "com/example/ampersat/ampersat/index/MetaChains")] 20

def k20c0 : Code := { maxStack := 2, maxLocals := 3, code := prog_12_method_1_code, exceptionTable := #[], attributes := #[] }
def k20m0 : Method := { name := "<init>", desc := "(Ljava/util/List;Ljava/lang/String;)V", sig := { parameters := [(.object "java/util/List"), (.object "java/lang/String")], returnType := none }, accessFlags := 0, code := some k20c0 }
def k20c1 : Code := { maxStack := 5, maxLocals := 4, code := prog_12_method_2_code, exceptionTable := #[], attributes := #[] }
def k20m1 : Method := { name := "of", desc := "(Ljava/lang/String;Lcom/example/ampersat/ampersat/index/MetaChains$Chain;)Lcom/example/ampersat/ampersat/index/MetaChains$Chain;", sig := { parameters := [(.object "java/lang/String"), (.object "com/example/ampersat/ampersat/index/MetaChains$Chain")], returnType := some (.object "com/example/ampersat/ampersat/index/MetaChains$Chain") }, accessFlags := 8, code := some k20c1 }
def k20c2 : Code := { maxStack := 5, maxLocals := 3, code := prog_12_method_3_code, exceptionTable := #[], attributes := #[] }
def k20m2 : Method := { name := "then", desc := "(Ljava/lang/String;)Lcom/example/ampersat/ampersat/index/MetaChains$Chain;", sig := { parameters := [(.object "java/lang/String")], returnType := some (.object "com/example/ampersat/ampersat/index/MetaChains$Chain") }, accessFlags := 0, code := some k20c2 }
def k20c3 : Code := { maxStack := 3, maxLocals := 1, code := prog_12_method_4_code, exceptionTable := #[], attributes := #[] }
def k20m3 : Method := { name := "last", desc := "()Ljava/lang/String;", sig := { parameters := [], returnType := some (.object "java/lang/String") }, accessFlags := 0, code := some k20c3 }
def k20c4 : Code := { maxStack := 1, maxLocals := 1, code := prog_12_method_9_code, exceptionTable := #[], attributes := #[] }
def k20m4 : Method := { name := "types", desc := "()Ljava/util/List;", sig := { parameters := [], returnType := some (.object "java/util/List") }, accessFlags := 1, code := some k20c4 }
def k20c5 : Code := { maxStack := 1, maxLocals := 1, code := prog_12_method_10_code, exceptionTable := #[], attributes := #[] }
def k20m5 : Method := { name := "text", desc := "()Ljava/lang/String;", sig := { parameters := [], returnType := some (.object "java/lang/String") }, accessFlags := 1, code := some k20c5 }
/-- com/example/ampersat/ampersat/index/MetaChains$Chain -/
def k20 : Class := { plain "com/example/ampersat/ampersat/index/MetaChains$Chain" (some 19) with
  accessFlags := 48
  interfaces := #[]
  cf := some (fileOf pool20 8 #[.nestHost 110] #[{ accessFlags := 0, nameIndex := 5, descriptorIndex := 25, attributes := #[] }, { accessFlags := 8, nameIndex := 21, descriptorIndex := 99, attributes := #[] }, { accessFlags := 0, nameIndex := 101, descriptorIndex := 102, attributes := #[] }, { accessFlags := 0, nameIndex := 103, descriptorIndex := 62, attributes := #[] }, { accessFlags := 1, nameIndex := 11, descriptorIndex := 30, attributes := #[] }, { accessFlags := 1, nameIndex := 15, descriptorIndex := 62, attributes := #[] }] 48 2 #[] #[{ accessFlags := 18, nameIndex := 11, descriptorIndex := 12, attributes := #[] }, { accessFlags := 18, nameIndex := 15, descriptorIndex := 16, attributes := #[] }])
  fields := #[{ name := "types", type := (.object "java/util/List"), accessFlags := 18, slot := 0, constantValue := 0 }, { name := "text", type := (.object "java/lang/String"), accessFlags := 18, slot := 1, constantValue := 0 }]
  methods := #[k20m0, k20m1, k20m2, k20m3, k20m4, k20m5]
  instanceTypes := #[(.object "java/util/List"), (.object "java/lang/String")]
  staticTypes := #[]
  resolved := Array.replicate 132 none
  statics := none }

def pool21 : Array CpInfo := pool [(2, .class_ 4), (1, u "java/lang/Object"), (0, u "<init>"), (0, u "()V"), (35, .class_ 44), (1, u "java/util/Objects"), (0, u "requireNonNull"), (0, u "(Ljava/lang/Object;)Ljava/lang/Object;"), (58, .methodref 106 107), (0, .class_ 108), (0, .nameAndType 109 110), (0, u "jdk/internal/util/Preconditions"), (0, u "checkIndex"), (0, u "(IILjava/util/function/BiFunction;)I"), (60, u "(II)I")] 12

def k21m0 : Method := { name := "<init>", desc := "()V", sig := { parameters := [], returnType := none }, accessFlags := 2, code := none }
def k21c1 : Code := { maxStack := 2, maxLocals := 1, code := jdk_31_method_10_code, exceptionTable := #[], attributes := #[] }
def k21m1 : Method := { name := "requireNonNull", desc := "(Ljava/lang/Object;)Ljava/lang/Object;", sig := { parameters := [(.object "java/lang/Object")], returnType := some (.object "java/lang/Object") }, accessFlags := 9, code := some k21c1 }
def k21c2 : Code := { maxStack := 3, maxLocals := 2, code := jdk_31_method_17_code, exceptionTable := #[], attributes := #[] }
def k21m2 : Method := { name := "checkIndex", desc := "(II)I", sig := { parameters := [.int, .int], returnType := some .int }, accessFlags := 9, code := some k21c2 }
/-- java/util/Objects -/
def k21 : Class := { plain "java/util/Objects" (some 0) with
  accessFlags := 49
  interfaces := #[]
  cf := some (fileOf pool21 42 #[] #[{ accessFlags := 2, nameIndex := 5, descriptorIndex := 6, attributes := #[] }, { accessFlags := 9, nameIndex := 45, descriptorIndex := 46, attributes := #[] }, { accessFlags := 9, nameIndex := 109, descriptorIndex := 171, attributes := #[] }] 49 2 #[] #[])
  fields := #[]
  methods := #[k21m0, k21m1, k21m2]
  instanceTypes := #[]
  staticTypes := #[]
  resolved := Array.replicate 184 none
  statics := none }

def pool22 : Array CpInfo := pool [(2, .class_ 4), (1, u "java/lang/Object"), (0, u "<init>"), (0, u "()V"), (17, .class_ 26), (1, u "jdk/internal/util/Preconditions"), (6, u "checkIndex"), (21, .class_ 56), (0, u "jdk/internal/util/Preconditions$4"), (57, .class_ 115), (0, u "jdk/internal/util/Preconditions$1"), (7, u "SIOOBE_FORMATTER"), (0, u "Ljava/util/function/BiFunction;"), (0, .class_ 126), (0, u "jdk/internal/util/Preconditions$2"), (3, u "AIOOBE_FORMATTER"), (0, .class_ 132), (0, u "jdk/internal/util/Preconditions$3"), (3, u "IOOBE_FORMATTER"), (41, u "(IILjava/util/function/BiFunction;)I")] 15

def k22m0 : Method := { name := "<init>", desc := "()V", sig := { parameters := [], returnType := none }, accessFlags := 1, code := none }
def k22c1 : Code := { maxStack := 3, maxLocals := 3, code := jdk_41_method_11_code, exceptionTable := #[], attributes := #[] }
def k22m1 : Method := { name := "checkIndex", desc := "(IILjava/util/function/BiFunction;)I", sig := { parameters := [.int, .int, (.object "java/util/function/BiFunction")], returnType := some .int }, accessFlags := 9, code := some k22c1 }
/-- jdk/internal/util/Preconditions -/
def k22 : Class := { plain "jdk/internal/util/Preconditions" (some 0) with
  accessFlags := 33
  interfaces := #[]
  cf := some (fileOf pool22 24 #[.nestMembers #[55, 131, 125, 114]] #[{ accessFlags := 1, nameIndex := 5, descriptorIndex := 6, attributes := #[] }, { accessFlags := 9, nameIndex := 33, descriptorIndex := 178, attributes := #[] }] 33 2 #[] #[{ accessFlags := 25, nameIndex := 123, descriptorIndex := 124, attributes := #[] }, { accessFlags := 25, nameIndex := 130, descriptorIndex := 124, attributes := #[] }, { accessFlags := 25, nameIndex := 136, descriptorIndex := 124, attributes := #[] }])
  fields := #[{ name := "SIOOBE_FORMATTER", type := (.object "java/util/function/BiFunction"), accessFlags := 25, slot := 0, constantValue := 0 }, { name := "AIOOBE_FORMATTER", type := (.object "java/util/function/BiFunction"), accessFlags := 25, slot := 1, constantValue := 0 }, { name := "IOOBE_FORMATTER", type := (.object "java/util/function/BiFunction"), accessFlags := 25, slot := 2, constantValue := 0 }]
  methods := #[k22m0, k22m1]
  instanceTypes := #[]
  staticTypes := #[(.object "java/util/function/BiFunction"), (.object "java/util/function/BiFunction"), (.object "java/util/function/BiFunction")]
  resolved := Array.replicate 194 none
  statics := some 2 }

def pool23 : Array CpInfo := pool [(2, .class_ 4), (1, u "java/lang/Object"), (0, u "<init>"), (0, u "()V"), (7, .class_ 16), (1, u "java/util/Arrays"), (57, .class_ 76), (1, u "java/util/Arrays$NaturalOrder"), (9, .methodref 2 87), (0, .nameAndType 88 89), (0, u "getClass"), (0, u "()Ljava/lang/Class;"), (20, .class_ 111), (0, u "[Ljava/lang/Object;"), (1, .class_ 115), (1, u "java/util/Arrays$LegacyMergeSort"), (1, u "Z"), (21, u "copyOfRange"), (10, .methodref 151 152), (0, .class_ 153), (0, .nameAndType 154 155), (0, u "java/lang/System"), (0, u "arraycopy"), (0, u "(Ljava/lang/Object;ILjava/lang/Object;II)V"), (144, .methodref 14 301), (0, .nameAndType 302 303), (0, u "copyOf"), (0, u "([Ljava/lang/Object;ILjava/lang/Class;)[Ljava/lang/Object;"), (0, .methodref 305 306), (0, .class_ 307), (0, .nameAndType 308 309), (0, u "java/lang/Math"), (0, u "min"), (0, u "(II)I"), (29, .methodref 14 340), (0, .nameAndType 341 342), (0, u "copyOfRangeByte"), (0, u "([BII)[B"), (0, .methodref 14 344), (0, .nameAndType 345 346), (0, u "checkLength"), (0, u "(II)V"), (28, .class_ 376), (0, u "java/util/Arrays$ArrayList"), (68, u "$assertionsDisabled"), (269, u "MIN_ARRAY_SORT_GRAN"), (0, u "I"), (2, u "INSERTIONSORT_THRESHOLD"), (140, u "([Ljava/lang/Object;I)[Ljava/lang/Object;"), (114, .class_ 976), (0, u "java/util/Arrays$ArrayItr")] 52

def k23m0 : Method := { name := "<init>", desc := "()V", sig := { parameters := [], returnType := none }, accessFlags := 2, code := none }
def k23c1 : Code := { maxStack := 3, maxLocals := 2, code := jdk_65_method_119_code, exceptionTable := #[], attributes := #[] }
def k23m1 : Method := { name := "copyOf", desc := "([Ljava/lang/Object;I)[Ljava/lang/Object;", sig := { parameters := [(.array (.object "java/lang/Object")), .int], returnType := some (.array (.object "java/lang/Object")) }, accessFlags := 9, code := some k23c1 }
def k23c2 : Code := { maxStack := 6, maxLocals := 4, code := jdk_65_method_120_code, exceptionTable := #[], attributes := #[] }
def k23m2 : Method := { name := "copyOf", desc := "([Ljava/lang/Object;ILjava/lang/Class;)[Ljava/lang/Object;", sig := { parameters := [(.array (.object "java/lang/Object")), .int, (.object "java/lang/Class")], returnType := some (.array (.object "java/lang/Object")) }, accessFlags := 9, code := some k23c2 }
def k23c3 : Code := { maxStack := 4, maxLocals := 2, code := jdk_65_method_131_code, exceptionTable := #[], attributes := #[] }
def k23m3 : Method := { name := "checkLength", desc := "(II)V", sig := { parameters := [.int, .int], returnType := none }, accessFlags := 10, code := some k23c3 }
def k23c4 : Code := { maxStack := 3, maxLocals := 3, code := jdk_65_method_132_code, exceptionTable := #[], attributes := #[] }
def k23m4 : Method := { name := "copyOfRange", desc := "([BII)[B", sig := { parameters := [(.array .byte), .int, .int], returnType := some (.array .byte) }, accessFlags := 9, code := some k23c4 }
def k23c5 : Code := { maxStack := 6, maxLocals := 5, code := jdk_65_method_133_code, exceptionTable := #[], attributes := #[] }
def k23m5 : Method := { name := "copyOfRangeByte", desc := "([BII)[B", sig := { parameters := [(.array .byte), .int, .int], returnType := some (.array .byte) }, accessFlags := 10, code := some k23c5 }
/-- java/util/Arrays -/
def k23 : Class := { plain "java/util/Arrays" (some 0) with
  accessFlags := 49
  interfaces := #[]
  cf := some (fileOf pool23 14 #[.nestMembers #[975, 375, 113, 74]] #[{ accessFlags := 2, nameIndex := 5, descriptorIndex := 6, attributes := #[] }, { accessFlags := 9, nameIndex := 302, descriptorIndex := 860, attributes := #[] }, { accessFlags := 9, nameIndex := 302, descriptorIndex := 303, attributes := #[] }, { accessFlags := 10, nameIndex := 345, descriptorIndex := 346, attributes := #[] }, { accessFlags := 9, nameIndex := 139, descriptorIndex := 342, attributes := #[] }, { accessFlags := 10, nameIndex := 341, descriptorIndex := 342, attributes := #[] }] 49 2 #[] #[{ accessFlags := 26, nameIndex := 715, descriptorIndex := 716, attributes := #[] }, { accessFlags := 26, nameIndex := 719, descriptorIndex := 716, attributes := #[] }, { accessFlags := 4120, nameIndex := 445, descriptorIndex := 117, attributes := #[] }])
  fields := #[{ name := "MIN_ARRAY_SORT_GRAN", type := .int, accessFlags := 26, slot := 0, constantValue := 0 }, { name := "INSERTIONSORT_THRESHOLD", type := .int, accessFlags := 26, slot := 1, constantValue := 0 }, { name := "$assertionsDisabled", type := .boolean, accessFlags := 4120, slot := 2, constantValue := 0 }]
  methods := #[k23m0, k23m1, k23m2, k23m3, k23m4, k23m5]
  instanceTypes := #[]
  staticTypes := #[.int, .int, .boolean]
  resolved := Array.replicate 1029 none
  statics := none }

def pool24 : Array CpInfo := pool [(2, .class_ 4), (1, u "java/lang/Object"), (0, u "<init>"), (0, u "()V"), (1, .class_ 10), (1, u "java/lang/System"), (0, u "allowSecurityManager"), (0, u "I"), (16, u "cons"), (0, u "Ljava/io/Console;"), (77, .class_ 110), (1, u "java/lang/System$CallersHolder"), (43, u "initialErrStream"), (0, u "Ljava/io/PrintStream;"), (19, u "security"), (0, u "Ljava/lang/SecurityManager;"), (31, .class_ 209), (0, u "java/lang/System$1"), (7, u "props"), (0, u "Ljava/util/Properties;"), (2, u "lineSeparator"), (0, u "Ljava/lang/String;"), (96, .class_ 321), (1, u "java/lang/System$LoggerFinder"), (5, .class_ 328), (0, u "java/lang/System$Logger"), (67, u "err"), (2, u "out"), (91, u "notSupportedJnuEncoding"), (15, u "in"), (17, u "initialIn"), (0, u "Ljava/io/InputStream;"), (35, u "bootLayer"), (0, u "Ljava/lang/ModuleLayer;"), (99, .class_ 664), (0, u "java/lang/System$2"), (9, u "NEVER"), (2, u "MAYBE"), (49, u "arraycopy"), (0, u "(Ljava/lang/Object;ILjava/lang/Object;II)V"), (72, .class_ 802), (0, u "java/lang/System$Logger$Level")] 31

def k24m0 : Method := { name := "<init>", desc := "()V", sig := { parameters := [], returnType := none }, accessFlags := 2, code := none }
def k24m1 : Method := { name := "arraycopy", desc := "(Ljava/lang/Object;ILjava/lang/Object;II)V", sig := { parameters := [(.object "java/lang/Object"), .int, (.object "java/lang/Object"), .int, .int], returnType := none }, accessFlags := 265, code := none }
/-- java/lang/System -/
def k24 : Class := { plain "java/lang/System" (some 0) with
  accessFlags := 49
  interfaces := #[]
  cf := some (fileOf pool24 8 #[.nestMembers #[319, 327, 801, 108, 663, 208]] #[{ accessFlags := 2, nameIndex := 5, descriptorIndex := 6, attributes := #[] }, { accessFlags := 265, nameIndex := 727, descriptorIndex := 728, attributes := #[] }] 49 2 #[] #[{ accessFlags := 25, nameIndex := 507, descriptorIndex := 526, attributes := #[] }, { accessFlags := 25, nameIndex := 399, descriptorIndex := 155, attributes := #[] }, { accessFlags := 25, nameIndex := 396, descriptorIndex := 155, attributes := #[] }, { accessFlags := 10, nameIndex := 525, descriptorIndex := 526, attributes := #[] }, { accessFlags := 26, nameIndex := 674, descriptorIndex := 12, attributes := #[] }, { accessFlags := 26, nameIndex := 677, descriptorIndex := 12, attributes := #[] }, { accessFlags := 10, nameIndex := 11, descriptorIndex := 12, attributes := #[] }, { accessFlags := 74, nameIndex := 175, descriptorIndex := 176, attributes := #[] }, { accessFlags := 10, nameIndex := 491, descriptorIndex := 222, attributes := #[] }, { accessFlags := 74, nameIndex := 29, descriptorIndex := 30, attributes := #[] }, { accessFlags := 74, nameIndex := 154, descriptorIndex := 155, attributes := #[] }, { accessFlags := 10, nameIndex := 217, descriptorIndex := 218, attributes := #[] }, { accessFlags := 10, nameIndex := 221, descriptorIndex := 222, attributes := #[] }, { accessFlags := 8, nameIndex := 562, descriptorIndex := 563, attributes := #[] }])
  fields := #[{ name := "in", type := (.object "java/io/InputStream"), accessFlags := 25, slot := 0, constantValue := 0 }, { name := "out", type := (.object "java/io/PrintStream"), accessFlags := 25, slot := 1, constantValue := 0 }, { name := "err", type := (.object "java/io/PrintStream"), accessFlags := 25, slot := 2, constantValue := 0 }, { name := "initialIn", type := (.object "java/io/InputStream"), accessFlags := 10, slot := 3, constantValue := 0 }, { name := "NEVER", type := .int, accessFlags := 26, slot := 4, constantValue := 0 }, { name := "MAYBE", type := .int, accessFlags := 26, slot := 5, constantValue := 0 }, { name := "allowSecurityManager", type := .int, accessFlags := 10, slot := 6, constantValue := 0 }, { name := "security", type := (.object "java/lang/SecurityManager"), accessFlags := 74, slot := 7, constantValue := 0 }, { name := "notSupportedJnuEncoding", type := (.object "java/lang/String"), accessFlags := 10, slot := 8, constantValue := 0 }, { name := "cons", type := (.object "java/io/Console"), accessFlags := 74, slot := 9, constantValue := 0 }, { name := "initialErrStream", type := (.object "java/io/PrintStream"), accessFlags := 74, slot := 10, constantValue := 0 }, { name := "props", type := (.object "java/util/Properties"), accessFlags := 10, slot := 11, constantValue := 0 }, { name := "lineSeparator", type := (.object "java/lang/String"), accessFlags := 10, slot := 12, constantValue := 0 }, { name := "bootLayer", type := (.object "java/lang/ModuleLayer"), accessFlags := 8, slot := 13, constantValue := 0 }]
  methods := #[k24m0, k24m1]
  instanceTypes := #[]
  staticTypes := #[(.object "java/io/InputStream"), (.object "java/io/PrintStream"), (.object "java/io/PrintStream"), (.object "java/io/InputStream"), .int, .int, .int, (.object "java/lang/SecurityManager"), (.object "java/lang/String"), (.object "java/io/Console"), (.object "java/io/PrintStream"), (.object "java/util/Properties"), (.object "java/lang/String"), (.object "java/lang/ModuleLayer")]
  resolved := Array.replicate 834 none
  statics := none }

def pool25 : Array CpInfo := pool [(2, .class_ 4), (1, u "java/lang/Object"), (0, u "<init>"), (0, u "()V"), (3, .class_ 11), (0, u "java/util/ImmutableCollections$List12"), (0, .class_ 13), (0, u "java/util/ImmutableCollections$ListN"), (3, u "Z"), (0, .class_ 19), (0, u "java/util/List"), (0, .interfaceMethodref 21 22), (0, .class_ 23), (0, .nameAndType 24 25), (0, u "java/util/Collection"), (0, u "isEmpty"), (0, u "()Z"), (2, u "of"), (1, .interfaceMethodref 21 31), (0, .nameAndType 32 33), (0, u "toArray"), (0, u "()[Ljava/lang/Object;"), (0, .interfaceMethodref 18 35), (0, .nameAndType 28 36), (0, u "([Ljava/lang/Object;)Ljava/util/List;"), (0, .methodref 38 39), (0, .class_ 40), (0, .nameAndType 41 42), (0, u "java/util/Objects"), (0, u "requireNonNull"), (0, u "(Ljava/lang/Object;)Ljava/lang/Object;"), (0, .methodref 12 44), (0, .nameAndType 5 45), (0, u "([Ljava/lang/Object;Z)V"), (1, .class_ 49), (1, u "java/util/ImmutableCollections"), (0, u "$assertionsDisabled"), (5, u "[Ljava/lang/Object;"), (5, u "EMPTY_LIST"), (0, u "Ljava/util/ImmutableCollections$ListN;"), (8, u "EMPTY_LIST_NULLS"), (22, u "SALT32L"), (0, u "J"), (2, u "REVERSE"), (6, u "archivedObjects"), (2, u "EMPTY"), (0, u "Ljava/lang/Object;"), (0, .class_ 112), (0, u "java/util/ImmutableCollections$SetN"), (5, u "EMPTY_SET"), (0, u "Ljava/util/ImmutableCollections$SetN;"), (0, .class_ 121), (0, u "java/util/ImmutableCollections$MapN"), (3, u "EMPTY_MAP"), (0, u "Ljava/util/ImmutableCollections$MapN;"), (4, u "EXPAND_FACTOR"), (0, u "I"), (9, u "listCopy"), (0, u "(Ljava/util/Collection;)Ljava/util/List;"), (7, u "listFromArray"), (17, .class_ 170), (0, u "java/util/ImmutableCollections$MapN$MapNIterator"), (0, .class_ 172), (0, u "java/util/ImmutableCollections$MapN$1"), (0, .class_ 174), (0, u "java/util/ImmutableCollections$Map1"), (0, .class_ 176), (0, u "java/util/ImmutableCollections$AbstractImmutableMap"), (0, .class_ 178), (0, u "java/util/ImmutableCollections$SetN$SetNIterator"), (0, .class_ 180), (0, u "java/util/ImmutableCollections$Set12"), (0, .class_ 182), (0, u "java/util/ImmutableCollections$Set12$1"), (0, .class_ 184), (0, u "java/util/ImmutableCollections$AbstractImmutableSet"), (0, .class_ 186), (0, u "java/util/ImmutableCollections$SubList"), (0, .class_ 188), (0, u "java/util/ImmutableCollections$ListItr"), (0, .class_ 190), (0, u "java/util/ImmutableCollections$AbstractImmutableList"), (0, .class_ 192), (0, u "java/util/ImmutableCollections$AbstractImmutableCollection"), (0, .class_ 194), (0, u "java/util/ImmutableCollections$Access"), (0, .class_ 196), (0, u "java/util/ImmutableCollections$Access$1")] 16

def k25m0 : Method := { name := "<init>", desc := "()V", sig := { parameters := [], returnType := none }, accessFlags := 2, code := none }
def k25c1 : Code := { maxStack := 1, maxLocals := 2, code := jdk_56_method_3_code, exceptionTable := #[], attributes := #[] }
def k25m1 : Method := { name := "listCopy", desc := "(Ljava/util/Collection;)Ljava/util/List;", sig := { parameters := [(.object "java/util/Collection")], returnType := some (.object "java/util/List") }, accessFlags := 8, code := some k25c1 }
def k25c2 : Code := { maxStack := 4, maxLocals := 3, code := jdk_56_method_4_code, exceptionTable := #[], attributes := #[] }
def k25m2 : Method := { name := "listFromArray", desc := "([Ljava/lang/Object;)Ljava/util/List;", sig := { parameters := [(.array (.object "java/lang/Object"))], returnType := some (.object "java/util/List") }, accessFlags := 136, code := some k25c2 }
/-- java/util/ImmutableCollections -/
def k25 : Class := { plain "java/util/ImmutableCollections" (some 0) with
  accessFlags := 32
  interfaces := #[]
  cf := some (fileOf pool25 47 #[.nestMembers #[120, 169, 171, 173, 175, 111, 177, 179, 181, 183, 12, 10, 185, 187, 189, 191, 193, 195]] #[{ accessFlags := 2, nameIndex := 5, descriptorIndex := 6, attributes := #[] }, { accessFlags := 8, nameIndex := 142, descriptorIndex := 143, attributes := #[] }, { accessFlags := 136, nameIndex := 151, descriptorIndex := 36, attributes := #[] }] 32 2 #[] #[{ accessFlags := 26, nameIndex := 95, descriptorIndex := 96, attributes := #[] }, { accessFlags := 26, nameIndex := 99, descriptorIndex := 17, attributes := #[] }, { accessFlags := 10, nameIndex := 106, descriptorIndex := 56, attributes := #[] }, { accessFlags := 26, nameIndex := 109, descriptorIndex := 110, attributes := #[] }, { accessFlags := 24, nameIndex := 62, descriptorIndex := 63, attributes := #[] }, { accessFlags := 24, nameIndex := 72, descriptorIndex := 63, attributes := #[] }, { accessFlags := 24, nameIndex := 118, descriptorIndex := 119, attributes := #[] }, { accessFlags := 24, nameIndex := 125, descriptorIndex := 126, attributes := #[] }, { accessFlags := 24, nameIndex := 131, descriptorIndex := 132, attributes := #[] }, { accessFlags := 4120, nameIndex := 50, descriptorIndex := 17, attributes := #[] }])
  fields := #[{ name := "SALT32L", type := .long, accessFlags := 26, slot := 0, constantValue := 0 }, { name := "REVERSE", type := .boolean, accessFlags := 26, slot := 1, constantValue := 0 }, { name := "archivedObjects", type := (.array (.object "java/lang/Object")), accessFlags := 10, slot := 2, constantValue := 0 }, { name := "EMPTY", type := (.object "java/lang/Object"), accessFlags := 26, slot := 3, constantValue := 0 }, { name := "EMPTY_LIST", type := (.object "java/util/ImmutableCollections$ListN"), accessFlags := 24, slot := 4, constantValue := 0 }, { name := "EMPTY_LIST_NULLS", type := (.object "java/util/ImmutableCollections$ListN"), accessFlags := 24, slot := 5, constantValue := 0 }, { name := "EMPTY_SET", type := (.object "java/util/ImmutableCollections$SetN"), accessFlags := 24, slot := 6, constantValue := 0 }, { name := "EMPTY_MAP", type := (.object "java/util/ImmutableCollections$MapN"), accessFlags := 24, slot := 7, constantValue := 0 }, { name := "EXPAND_FACTOR", type := .int, accessFlags := 24, slot := 8, constantValue := 0 }, { name := "$assertionsDisabled", type := .boolean, accessFlags := 4120, slot := 9, constantValue := 0 }]
  methods := #[k25m0, k25m1, k25m2]
  instanceTypes := #[]
  staticTypes := #[.long, .boolean, (.array (.object "java/lang/Object")), (.object "java/lang/Object"), (.object "java/util/ImmutableCollections$ListN"), (.object "java/util/ImmutableCollections$ListN"), (.object "java/util/ImmutableCollections$SetN"), (.object "java/util/ImmutableCollections$MapN"), .int, .boolean]
  resolved := Array.replicate 213 none
  statics := some 3 }

def pool26 : Array CpInfo := pool [(1, .methodref 2 3), (0, .class_ 4), (0, .nameAndType 5 6), (0, u "java/util/AbstractCollection"), (0, u "<init>"), (0, u "()V"), (1, .class_ 10), (1, u "java/util/ImmutableCollections"), (2, .class_ 14), (0, u "java/util/ImmutableCollections$AbstractImmutableCollection")] 41

def k26c0 : Code := { maxStack := 1, maxLocals := 1, code := jdk_47_method_1_code, exceptionTable := #[], attributes := #[] }
def k26m0 : Method := { name := "<init>", desc := "()V", sig := { parameters := [], returnType := none }, accessFlags := 0, code := some k26c0 }
/-- java/util/ImmutableCollections$AbstractImmutableCollection -/
def k26 : Class := { plain "java/util/ImmutableCollections$AbstractImmutableCollection" (some 11) with
  accessFlags := 1056
  interfaces := #[]
  cf := some (fileOf pool26 13 #[.nestHost 8] #[{ accessFlags := 0, nameIndex := 5, descriptorIndex := 6, attributes := #[] }] 1056 2 #[] #[])
  fields := #[]
  methods := #[k26m0]
  instanceTypes := #[]
  staticTypes := #[]
  resolved := Array.replicate 56 none
  statics := none }

def pool27 : Array CpInfo := pool [(1, .methodref 2 3), (0, .class_ 4), (0, .nameAndType 5 6), (0, u "java/util/ImmutableCollections$AbstractImmutableCollection"), (0, u "<init>"), (0, u "()V"), (1, .class_ 10), (1, u "java/util/ImmutableCollections"), (3, .class_ 16), (1, u "java/util/ImmutableCollections$AbstractImmutableList"), (60, .class_ 78), (0, u "java/util/List"), (45, .class_ 125), (0, u "java/util/RandomAccess")] 70

def k27c0 : Code := { maxStack := 1, maxLocals := 1, code := jdk_46_method_1_code, exceptionTable := #[], attributes := #[] }
def k27m0 : Method := { name := "<init>", desc := "()V", sig := { parameters := [], returnType := none }, accessFlags := 0, code := some k27c0 }
/-- java/util/ImmutableCollections$AbstractImmutableList -/
def k27 : Class := { plain "java/util/ImmutableCollections$AbstractImmutableList" (some 26) with
  accessFlags := 1056
  interfaces := #[13, 15]
  cf := some (fileOf pool27 14 #[.nestHost 8] #[{ accessFlags := 0, nameIndex := 5, descriptorIndex := 6, attributes := #[] }] 1056 2 #[77, 124] #[])
  fields := #[]
  methods := #[k27m0]
  instanceTypes := #[]
  staticTypes := #[]
  resolved := Array.replicate 196 none
  statics := none }

def pool28 : Array CpInfo := pool [(1, .methodref 2 3), (0, .class_ 4), (0, .nameAndType 5 6), (0, u "java/util/ImmutableCollections$AbstractImmutableList"), (0, u "<init>"), (0, u "()V"), (0, .methodref 8 9), (0, .class_ 10), (0, .nameAndType 11 12), (0, u "java/util/Objects"), (0, u "requireNonNull"), (0, u "(Ljava/lang/Object;)Ljava/lang/Object;"), (0, .fieldref 14 15), (0, .class_ 16), (0, .nameAndType 17 18), (0, u "java/util/ImmutableCollections$List12"), (0, u "e0"), (0, u "Ljava/lang/Object;"), (0, .fieldref 20 21), (0, .class_ 22), (0, .nameAndType 23 18), (0, u "java/util/ImmutableCollections"), (0, u "EMPTY"), (0, .fieldref 14 25), (0, .nameAndType 26 18), (0, u "e1"), (24, u "size"), (0, u "()I"), (17, .class_ 71), (0, u "java/io/Serializable"), (13, u "(Ljava/lang/Object;Ljava/lang/Object;)V"), (4, u "get"), (0, u "(I)Ljava/lang/Object;")] 33

def k28c0 : Code := { maxStack := 2, maxLocals := 3, code := jdk_44_method_2_code, exceptionTable := #[], attributes := #[] }
def k28m0 : Method := { name := "<init>", desc := "(Ljava/lang/Object;Ljava/lang/Object;)V", sig := { parameters := [(.object "java/lang/Object"), (.object "java/lang/Object")], returnType := none }, accessFlags := 0, code := some k28c0 }
def k28c1 : Code := { maxStack := 2, maxLocals := 1, code := jdk_44_method_3_code, exceptionTable := #[], attributes := #[] }
def k28m1 : Method := { name := "size", desc := "()I", sig := { parameters := [], returnType := some .int }, accessFlags := 1, code := some k28c1 }
def k28c2 : Code := { maxStack := 2, maxLocals := 2, code := jdk_44_method_5_code, exceptionTable := #[], attributes := #[] }
def k28m2 : Method := { name := "get", desc := "(I)Ljava/lang/Object;", sig := { parameters := [.int], returnType := some (.object "java/lang/Object") }, accessFlags := 1, code := some k28c2 }
/-- java/util/ImmutableCollections$List12 -/
def k28 : Class := { plain "java/util/ImmutableCollections$List12" (some 27) with
  accessFlags := 48
  interfaces := #[2]
  cf := some (fileOf pool28 14 #[.nestHost 20] #[{ accessFlags := 0, nameIndex := 5, descriptorIndex := 85, attributes := #[] }, { accessFlags := 1, nameIndex := 51, descriptorIndex := 52, attributes := #[] }, { accessFlags := 1, nameIndex := 90, descriptorIndex := 91, attributes := #[] }] 48 2 #[70] #[{ accessFlags := 18, nameIndex := 17, descriptorIndex := 18, attributes := #[] }, { accessFlags := 18, nameIndex := 26, descriptorIndex := 18, attributes := #[] }])
  fields := #[{ name := "e0", type := (.object "java/lang/Object"), accessFlags := 18, slot := 0, constantValue := 0 }, { name := "e1", type := (.object "java/lang/Object"), accessFlags := 18, slot := 1, constantValue := 0 }]
  methods := #[k28m0, k28m1, k28m2]
  instanceTypes := #[(.object "java/lang/Object"), (.object "java/lang/Object")]
  staticTypes := #[]
  resolved := Array.replicate 125 none
  statics := none }

def pool29 : Array CpInfo := pool [(1, .methodref 2 3), (0, .class_ 4), (0, .nameAndType 5 6), (0, u "java/util/ImmutableCollections$AbstractImmutableList"), (0, u "<init>"), (0, u "()V"), (0, .fieldref 8 9), (0, .class_ 10), (0, .nameAndType 11 12), (0, u "java/util/ImmutableCollections$ListN"), (0, u "elements"), (0, u "[Ljava/lang/Object;"), (0, .fieldref 8 14), (0, .nameAndType 15 16), (0, u "allowNulls"), (0, u "Z"), (42, .class_ 60), (0, u "java/io/Serializable"), (4, u "([Ljava/lang/Object;Z)V"), (11, u "size"), (0, u "()I"), (0, u "get"), (0, u "(I)Ljava/lang/Object;"), (33, .class_ 115), (0, u "java/util/ImmutableCollections")] 3

def k29c0 : Code := { maxStack := 2, maxLocals := 3, code := jdk_45_method_1_code, exceptionTable := #[], attributes := #[] }
def k29m0 : Method := { name := "<init>", desc := "([Ljava/lang/Object;Z)V", sig := { parameters := [(.array (.object "java/lang/Object")), .boolean], returnType := none }, accessFlags := 2, code := some k29c0 }
def k29c1 : Code := { maxStack := 1, maxLocals := 1, code := jdk_45_method_3_code, exceptionTable := #[], attributes := #[] }
def k29m1 : Method := { name := "size", desc := "()I", sig := { parameters := [], returnType := some .int }, accessFlags := 1, code := some k29c1 }
def k29c2 : Code := { maxStack := 2, maxLocals := 2, code := jdk_45_method_4_code, exceptionTable := #[], attributes := #[] }
def k29m2 : Method := { name := "get", desc := "(I)Ljava/lang/Object;", sig := { parameters := [.int], returnType := some (.object "java/lang/Object") }, accessFlags := 1, code := some k29c2 }
/-- java/util/ImmutableCollections$ListN -/
def k29 : Class := { plain "java/util/ImmutableCollections$ListN" (some 27) with
  accessFlags := 48
  interfaces := #[2]
  cf := some (fileOf pool29 8 #[.nestHost 114] #[{ accessFlags := 2, nameIndex := 5, descriptorIndex := 65, attributes := #[] }, { accessFlags := 1, nameIndex := 77, descriptorIndex := 78, attributes := #[] }, { accessFlags := 1, nameIndex := 79, descriptorIndex := 80, attributes := #[] }] 48 2 #[59] #[{ accessFlags := 18, nameIndex := 11, descriptorIndex := 12, attributes := #[] }, { accessFlags := 18, nameIndex := 15, descriptorIndex := 16, attributes := #[] }])
  fields := #[{ name := "elements", type := (.array (.object "java/lang/Object")), accessFlags := 18, slot := 0, constantValue := 0 }, { name := "allowNulls", type := .boolean, accessFlags := 18, slot := 1, constantValue := 0 }]
  methods := #[k29m0, k29m1, k29m2]
  instanceTypes := #[(.array (.object "java/lang/Object")), .boolean]
  staticTypes := #[]
  resolved := Array.replicate 119 none
  statics := none }

def pool30 : Array CpInfo := pool [(1, .class_ 2), (0, u "java/lang/Appendable"), (0, .class_ 4), (0, u "java/lang/Object")] 9

/-- java/lang/Appendable -/
def k30 : Class := { plain "java/lang/Appendable" (some 0) with
  accessFlags := 1537
  interfaces := #[]
  cf := some (fileOf pool30 1 #[] #[] 1537 3 #[] #[])
  fields := #[]
  methods := #[]
  instanceTypes := #[]
  staticTypes := #[]
  resolved := Array.replicate 14 none
  statics := none }

def pool31 : Array CpInfo := pool [(1, .class_ 2), (0, u "java/lang/String"), (0, .methodref 4 5), (0, .class_ 6), (0, .nameAndType 7 8), (0, u "java/lang/Object"), (0, u "<init>"), (0, u "()V"), (1, .class_ 12), (1, u "java/lang/AbstractStringBuilder"), (0, u "EMPTYVALUE"), (0, u "[B"), (0, .fieldref 10 16), (0, .nameAndType 17 14), (0, u "value"), (0, .fieldref 1 19), (0, .nameAndType 20 21), (0, u "COMPACT_STRINGS"), (0, u "Z"), (0, .fieldref 10 23), (0, .nameAndType 24 25), (0, u "coder"), (0, u "B"), (6, .methodref 1 33), (0, .nameAndType 34 35), (0, u "length"), (0, u "()I"), (4, .methodref 1 41), (0, .nameAndType 24 42), (0, u "()B"), (2, u "append"), (0, u "(Ljava/lang/String;)Ljava/lang/AbstractStringBuilder;"), (1, .class_ 49), (0, u "java/lang/CharSequence"), (19, u "(Ljava/lang/String;)V"), (5, u "maybeLatin1"), (3, .fieldref 10 80), (0, .nameAndType 81 82), (0, u "count"), (0, u "I"), (0, .methodref 10 84), (0, .nameAndType 85 86), (0, u "isLatin1"), (0, u "()Z"), (1, .class_ 90), (1, u "java/lang/StringLatin1"), (9, .methodref 10 101), (0, .nameAndType 102 103), (0, u "ensureCapacityInternal"), (0, u "(I)V"), (87, .methodref 88 192), (0, .nameAndType 193 194), (0, u "canEncode"), (0, u "(C)Z"), (13, .methodref 10 209), (0, .nameAndType 210 211), (0, u "putStringAt"), (0, u "(ILjava/lang/String;)V"), (5, u "inflateIfNeededFor"), (2, .nameAndType 221 222), (0, u "getBytes"), (0, u "([BIB)V"), (69, u "(C)Ljava/lang/AbstractStringBuilder;"), (104, .methodref 10 398), (0, .nameAndType 217 69), (0, .methodref 1 220), (3, u "()[B"), (40, .class_ 445), (0, u "java/lang/Appendable"), (106, u "getValue")] 56

def k31m0 : Method := { name := "<init>", desc := "()V", sig := { parameters := [], returnType := none }, accessFlags := 0, code := none }
def k31c1 : Code := { maxStack := 2, maxLocals := 2, code := jdk_68_method_2_code, exceptionTable := #[], attributes := #[] }
def k31m1 : Method := { name := "<init>", desc := "(I)V", sig := { parameters := [.int], returnType := none }, accessFlags := 0, code := some k31c1 }
def k31c2 : Code := { maxStack := 1, maxLocals := 1, code := jdk_68_method_6_code, exceptionTable := #[], attributes := #[] }
def k31m2 : Method := { name := "length", desc := "()I", sig := { parameters := [], returnType := some .int }, accessFlags := 1, code := some k31c2 }
def k31c3 : Code := { maxStack := 4, maxLocals := 3, code := jdk_68_method_9_code, exceptionTable := #[], attributes := #[] }
def k31m3 : Method := { name := "ensureCapacityInternal", desc := "(I)V", sig := { parameters := [.int], returnType := none }, accessFlags := 2, code := some k31c3 }
def k31c4 : Code := { maxStack := 3, maxLocals := 3, code := jdk_68_method_22_code, exceptionTable := #[], attributes := #[] }
def k31m4 : Method := { name := "append", desc := "(Ljava/lang/String;)Ljava/lang/AbstractStringBuilder;", sig := { parameters := [(.object "java/lang/String")], returnType := some (.object "java/lang/AbstractStringBuilder") }, accessFlags := 1, code := some k31c4 }
def k31c5 : Code := { maxStack := 5, maxLocals := 2, code := jdk_68_method_31_code, exceptionTable := #[], attributes := #[] }
def k31m5 : Method := { name := "append", desc := "(C)Ljava/lang/AbstractStringBuilder;", sig := { parameters := [.char], returnType := some (.object "java/lang/AbstractStringBuilder") }, accessFlags := 1, code := some k31c5 }
def k31c6 : Code := { maxStack := 1, maxLocals := 1, code := jdk_68_method_64_code, exceptionTable := #[], attributes := #[] }
def k31m6 : Method := { name := "getValue", desc := "()[B", sig := { parameters := [], returnType := some (.array .byte) }, accessFlags := 16, code := some k31c6 }
def k31c7 : Code := { maxStack := 1, maxLocals := 1, code := jdk_68_method_68_code, exceptionTable := #[], attributes := #[] }
def k31m7 : Method := { name := "isLatin1", desc := "()Z", sig := { parameters := [], returnType := some .boolean }, accessFlags := 16, code := some k31c7 }
def k31c8 : Code := { maxStack := 2, maxLocals := 2, code := jdk_68_method_71_code, exceptionTable := #[], attributes := #[] }
def k31m8 : Method := { name := "inflateIfNeededFor", desc := "(Ljava/lang/String;)V", sig := { parameters := [(.object "java/lang/String")], returnType := none }, accessFlags := 2, code := some k31c8 }
def k31c9 : Code := { maxStack := 4, maxLocals := 3, code := jdk_68_method_73_code, exceptionTable := #[], attributes := #[] }
def k31m9 : Method := { name := "putStringAt", desc := "(ILjava/lang/String;)V", sig := { parameters := [.int, (.object "java/lang/String")], returnType := none }, accessFlags := 2, code := some k31c9 }
/-- java/lang/AbstractStringBuilder -/
def k31 : Class := { plain "java/lang/AbstractStringBuilder" (some 0) with
  accessFlags := 1056
  interfaces := #[30, 4]
  cf := some (fileOf pool31 10 #[] #[{ accessFlags := 0, nameIndex := 7, descriptorIndex := 8, attributes := #[] }, { accessFlags := 0, nameIndex := 7, descriptorIndex := 103, attributes := #[] }, { accessFlags := 1, nameIndex := 34, descriptorIndex := 35, attributes := #[] }, { accessFlags := 2, nameIndex := 102, descriptorIndex := 103, attributes := #[] }, { accessFlags := 1, nameIndex := 45, descriptorIndex := 46, attributes := #[] }, { accessFlags := 1, nameIndex := 45, descriptorIndex := 292, attributes := #[] }, { accessFlags := 16, nameIndex := 552, descriptorIndex := 403, attributes := #[] }, { accessFlags := 16, nameIndex := 85, descriptorIndex := 86, attributes := #[] }, { accessFlags := 2, nameIndex := 217, descriptorIndex := 69, attributes := #[] }, { accessFlags := 2, nameIndex := 210, descriptorIndex := 211, attributes := #[] }] 1056 4 #[444, 48] #[{ accessFlags := 0, nameIndex := 17, descriptorIndex := 14, attributes := #[] }, { accessFlags := 0, nameIndex := 24, descriptorIndex := 25, attributes := #[] }, { accessFlags := 0, nameIndex := 75, descriptorIndex := 21, attributes := #[] }, { accessFlags := 0, nameIndex := 81, descriptorIndex := 82, attributes := #[] }, { accessFlags := 26, nameIndex := 13, descriptorIndex := 14, attributes := #[] }])
  fields := #[{ name := "value", type := (.array .byte), accessFlags := 0, slot := 0, constantValue := 0 }, { name := "coder", type := .byte, accessFlags := 0, slot := 1, constantValue := 0 }, { name := "maybeLatin1", type := .boolean, accessFlags := 0, slot := 2, constantValue := 0 }, { name := "count", type := .int, accessFlags := 0, slot := 3, constantValue := 0 }, { name := "EMPTYVALUE", type := (.array .byte), accessFlags := 26, slot := 0, constantValue := 0 }]
  methods := #[k31m0, k31m1, k31m2, k31m3, k31m4, k31m5, k31m6, k31m7, k31m8, k31m9]
  instanceTypes := #[(.array .byte), .byte, .boolean, .int]
  staticTypes := #[(.array .byte)]
  resolved := Array.replicate 609 none
  statics := none }

def pool32 : Array CpInfo := pool [(1, .methodref 2 3), (0, .class_ 4), (0, .nameAndType 5 6), (0, u "java/lang/AbstractStringBuilder"), (0, u "<init>"), (0, u "(I)V"), (11, .class_ 20), (1, u "java/lang/String"), (3, .class_ 26), (1, u "java/lang/StringBuilder"), (0, u "append"), (0, u "(Ljava/lang/String;)Ljava/lang/StringBuilder;"), (0, .methodref 2 30), (0, .nameAndType 27 31), (0, u "(Ljava/lang/String;)Ljava/lang/AbstractStringBuilder;"), (18, .methodref 2 51), (0, .nameAndType 27 52), (0, u "(C)Ljava/lang/AbstractStringBuilder;"), (84, .methodref 18 138), (0, .nameAndType 5 139), (0, u "(Ljava/lang/StringBuilder;)V"), (5, u "()V"), (10, u "()I"), (129, u "(C)Ljava/lang/StringBuilder;"), (56, .methodref 2 344), (0, .nameAndType 345 156), (0, u "length"), (3, .class_ 350), (0, u "java/lang/Appendable"), (0, .class_ 352), (0, u "java/io/Serializable"), (0, .class_ 354), (0, u "java/lang/Comparable"), (0, .class_ 356), (0, u "java/lang/CharSequence"), (0, u "serialVersionUID"), (0, u "J"), (40, u "toString"), (0, u "()Ljava/lang/String;")] 21

def k32c0 : Code := { maxStack := 2, maxLocals := 1, code := jdk_67_method_1_code, exceptionTable := #[], attributes := #[] }
def k32m0 : Method := { name := "<init>", desc := "()V", sig := { parameters := [], returnType := none }, accessFlags := 1, code := some k32c0 }
def k32c1 : Code := { maxStack := 2, maxLocals := 2, code := jdk_67_method_7_code, exceptionTable := #[], attributes := #[] }
def k32m1 : Method := { name := "append", desc := "(Ljava/lang/String;)Ljava/lang/StringBuilder;", sig := { parameters := [(.object "java/lang/String")], returnType := some (.object "java/lang/StringBuilder") }, accessFlags := 1, code := some k32c1 }
def k32c2 : Code := { maxStack := 2, maxLocals := 2, code := jdk_67_method_14_code, exceptionTable := #[], attributes := #[] }
def k32m2 : Method := { name := "append", desc := "(C)Ljava/lang/StringBuilder;", sig := { parameters := [.char], returnType := some (.object "java/lang/StringBuilder") }, accessFlags := 1, code := some k32c2 }
def k32c3 : Code := { maxStack := 3, maxLocals := 1, code := jdk_67_method_42_code, exceptionTable := #[], attributes := #[] }
def k32m3 : Method := { name := "toString", desc := "()Ljava/lang/String;", sig := { parameters := [], returnType := some (.object "java/lang/String") }, accessFlags := 1, code := some k32c3 }
def k32c4 : Code := { maxStack := 1, maxLocals := 1, code := jdk_67_method_93_code, exceptionTable := #[], attributes := #[] }
def k32m4 : Method := { name := "length", desc := "()I", sig := { parameters := [], returnType := some .int }, accessFlags := 4161, code := some k32c4 }
/-- java/lang/StringBuilder -/
def k32 : Class := { plain "java/lang/StringBuilder" (some 31) with
  accessFlags := 49
  interfaces := #[30, 2, 3, 4]
  cf := some (fileOf pool32 24 #[] #[{ accessFlags := 1, nameIndex := 5, descriptorIndex := 145, attributes := #[] }, { accessFlags := 1, nameIndex := 27, descriptorIndex := 28, attributes := #[] }, { accessFlags := 1, nameIndex := 27, descriptorIndex := 286, attributes := #[] }, { accessFlags := 1, nameIndex := 399, descriptorIndex := 400, attributes := #[] }, { accessFlags := 4161, nameIndex := 345, descriptorIndex := 156, attributes := #[] }] 49 2 #[349, 351, 353, 355] #[{ accessFlags := 24, nameIndex := 357, descriptorIndex := 358, attributes := #[] }])
  fields := #[{ name := "serialVersionUID", type := .long, accessFlags := 24, slot := 0, constantValue := 0 }]
  methods := #[k32m0, k32m1, k32m2, k32m3, k32m4]
  instanceTypes := #[(.array .byte), .byte, .boolean, .int]
  staticTypes := #[.long]
  resolved := Array.replicate 422 none
  statics := none }

def pool33 : Array CpInfo := pool [(6, .class_ 8), (1, u "java/lang/Object"), (0, u "<init>"), (0, u "()V"), (1, .class_ 14), (1, u "java/lang/StringUTF16"), (31, u "$assertionsDisabled"), (0, u "Z"), (13, u "HI_BYTE_SHIFT"), (0, u "I"), (2, u "LO_BYTE_SHIFT"), (49, .methodref 12 116), (0, .nameAndType 117 118), (0, u "compress"), (0, u "([CI[BII)I"), (3, u "([CII)[B"), (138, u "coderFromArrayLen"), (0, u "([BI)B"), (106, .class_ 371), (1, u "java/lang/StringUTF16$LinesSpliterator"), (58, u "MAX_LENGTH"), (196, .class_ 628), (0, u "java/lang/StringUTF16$CodePointsSpliterator"), (0, .class_ 630), (0, u "java/lang/StringUTF16$CharsSpliterator")] 4

def k33m0 : Method := { name := "<init>", desc := "()V", sig := { parameters := [], returnType := none }, accessFlags := 0, code := none }
def k33c1 : Code := { maxStack := 2, maxLocals := 2, code := jdk_52_method_15_code, exceptionTable := #[], attributes := #[] }
def k33m1 : Method := { name := "coderFromArrayLen", desc := "([BI)B", sig := { parameters := [(.array .byte), .int], returnType := some .byte }, accessFlags := 8, code := some k33c1 }
def k33c2 : Code := { maxStack := 5, maxLocals := 6, code := jdk_52_method_16_code, exceptionTable := #[], attributes := #[] }
def k33m2 : Method := { name := "compress", desc := "([CII)[B", sig := { parameters := [(.array .char), .int, .int], returnType := some (.array .byte) }, accessFlags := 9, code := some k33c2 }
def k33c3 : Code := { maxStack := 3, maxLocals := 7, code := jdk_52_method_21_code, exceptionTable := #[], attributes := #[] }
def k33m3 : Method := { name := "compress", desc := "([CI[BII)I", sig := { parameters := [(.array .char), .int, (.array .byte), .int, .int], returnType := some .int }, accessFlags := 9, code := some k33c3 }
/-- java/lang/StringUTF16 -/
def k33 : Class := { plain "java/lang/StringUTF16" (some 0) with
  accessFlags := 48
  interfaces := #[]
  cf := some (fileOf pool33 12 #[.nestMembers #[627, 629, 369]] #[{ accessFlags := 0, nameIndex := 9, descriptorIndex := 10, attributes := #[] }, { accessFlags := 8, nameIndex := 261, descriptorIndex := 262, attributes := #[] }, { accessFlags := 9, nameIndex := 117, descriptorIndex := 122, attributes := #[] }, { accessFlags := 9, nameIndex := 117, descriptorIndex := 118, attributes := #[] }] 48 6 #[] #[{ accessFlags := 26, nameIndex := 61, descriptorIndex := 62, attributes := #[] }, { accessFlags := 26, nameIndex := 65, descriptorIndex := 62, attributes := #[] }, { accessFlags := 24, nameIndex := 430, descriptorIndex := 62, attributes := #[] }, { accessFlags := 4120, nameIndex := 46, descriptorIndex := 47, attributes := #[] }])
  fields := #[{ name := "HI_BYTE_SHIFT", type := .int, accessFlags := 26, slot := 0, constantValue := 0 }, { name := "LO_BYTE_SHIFT", type := .int, accessFlags := 26, slot := 1, constantValue := 0 }, { name := "MAX_LENGTH", type := .int, accessFlags := 24, slot := 2, constantValue := 0 }, { name := "$assertionsDisabled", type := .boolean, accessFlags := 4120, slot := 3, constantValue := 0 }]
  methods := #[k33m0, k33m1, k33m2, k33m3]
  instanceTypes := #[]
  staticTypes := #[.int, .int, .int, .boolean]
  resolved := Array.replicate 635 none
  statics := none }

def pool34 : Array CpInfo := pool [(9, u "<init>"), (6, .class_ 18), (1, u "java/lang/Object"), (0, u "()V"), (1, .class_ 23), (1, u "jdk/internal/util/ArraysSupport"), (0, u "LOG2_ARRAY_LONG_INDEX_SCALE"), (0, u "I"), (2, u "U"), (0, u "Ljdk/internal/misc/Unsafe;"), (8, u "BIG_ENDIAN"), (0, u "Z"), (8, u "LOG2_BYTE_BIT_SIZE"), (4, u "LOG2_ARRAY_INT_INDEX_SCALE"), (54, u "JLA"), (0, u "Ljdk/internal/access/JavaLangAccess;"), (11, u "LOG2_ARRAY_BOOLEAN_INDEX_SCALE"), (9, u "LOG2_ARRAY_BYTE_INDEX_SCALE"), (5, u "LOG2_ARRAY_CHAR_INDEX_SCALE"), (5, u "LOG2_ARRAY_SHORT_INDEX_SCALE"), (18, u "LOG2_ARRAY_FLOAT_INDEX_SCALE"), (24, u "LOG2_ARRAY_DOUBLE_INDEX_SCALE"), (89, u "T_BOOLEAN"), (2, u "T_CHAR"), (1, u "T_FLOAT"), (1, u "T_DOUBLE"), (1, u "T_BYTE"), (1, u "T_SHORT"), (1, u "T_INT"), (1, u "T_LONG"), (1, u "SOFT_MAX_ARRAY_LENGTH")] 83

def k34m0 : Method := { name := "<init>", desc := "()V", sig := { parameters := [], returnType := none }, accessFlags := 2, code := none }
/-- jdk/internal/util/ArraysSupport -/
def k34 : Class := { plain "jdk/internal/util/ArraysSupport" (some 0) with
  accessFlags := 33
  interfaces := #[]
  cf := some (fileOf pool34 21 #[] #[{ accessFlags := 2, nameIndex := 9, descriptorIndex := 19, attributes := #[] }] 33 16 #[] #[{ accessFlags := 24, nameIndex := 28, descriptorIndex := 29, attributes := #[] }, { accessFlags := 26, nameIndex := 38, descriptorIndex := 39, attributes := #[] }, { accessFlags := 25, nameIndex := 121, descriptorIndex := 25, attributes := #[] }, { accessFlags := 25, nameIndex := 131, descriptorIndex := 25, attributes := #[] }, { accessFlags := 25, nameIndex := 137, descriptorIndex := 25, attributes := #[] }, { accessFlags := 25, nameIndex := 143, descriptorIndex := 25, attributes := #[] }, { accessFlags := 25, nameIndex := 53, descriptorIndex := 25, attributes := #[] }, { accessFlags := 25, nameIndex := 24, descriptorIndex := 25, attributes := #[] }, { accessFlags := 25, nameIndex := 162, descriptorIndex := 25, attributes := #[] }, { accessFlags := 25, nameIndex := 187, descriptorIndex := 25, attributes := #[] }, { accessFlags := 26, nameIndex := 48, descriptorIndex := 25, attributes := #[] }, { accessFlags := 25, nameIndex := 277, descriptorIndex := 25, attributes := #[] }, { accessFlags := 25, nameIndex := 280, descriptorIndex := 25, attributes := #[] }, { accessFlags := 25, nameIndex := 282, descriptorIndex := 25, attributes := #[] }, { accessFlags := 25, nameIndex := 284, descriptorIndex := 25, attributes := #[] }, { accessFlags := 25, nameIndex := 286, descriptorIndex := 25, attributes := #[] }, { accessFlags := 25, nameIndex := 288, descriptorIndex := 25, attributes := #[] }, { accessFlags := 25, nameIndex := 290, descriptorIndex := 25, attributes := #[] }, { accessFlags := 25, nameIndex := 292, descriptorIndex := 25, attributes := #[] }, { accessFlags := 26, nameIndex := 108, descriptorIndex := 109, attributes := #[] }, { accessFlags := 25, nameIndex := 294, descriptorIndex := 25, attributes := #[] }])
  fields := #[{ name := "U", type := (.object "jdk/internal/misc/Unsafe"), accessFlags := 24, slot := 0, constantValue := 0 }, { name := "BIG_ENDIAN", type := .boolean, accessFlags := 26, slot := 1, constantValue := 0 }, { name := "LOG2_ARRAY_BOOLEAN_INDEX_SCALE", type := .int, accessFlags := 25, slot := 2, constantValue := 0 }, { name := "LOG2_ARRAY_BYTE_INDEX_SCALE", type := .int, accessFlags := 25, slot := 3, constantValue := 0 }, { name := "LOG2_ARRAY_CHAR_INDEX_SCALE", type := .int, accessFlags := 25, slot := 4, constantValue := 0 }, { name := "LOG2_ARRAY_SHORT_INDEX_SCALE", type := .int, accessFlags := 25, slot := 5, constantValue := 0 }, { name := "LOG2_ARRAY_INT_INDEX_SCALE", type := .int, accessFlags := 25, slot := 6, constantValue := 0 }, { name := "LOG2_ARRAY_LONG_INDEX_SCALE", type := .int, accessFlags := 25, slot := 7, constantValue := 0 }, { name := "LOG2_ARRAY_FLOAT_INDEX_SCALE", type := .int, accessFlags := 25, slot := 8, constantValue := 0 }, { name := "LOG2_ARRAY_DOUBLE_INDEX_SCALE", type := .int, accessFlags := 25, slot := 9, constantValue := 0 }, { name := "LOG2_BYTE_BIT_SIZE", type := .int, accessFlags := 26, slot := 10, constantValue := 0 }, { name := "T_BOOLEAN", type := .int, accessFlags := 25, slot := 11, constantValue := 0 }, { name := "T_CHAR", type := .int, accessFlags := 25, slot := 12, constantValue := 0 }, { name := "T_FLOAT", type := .int, accessFlags := 25, slot := 13, constantValue := 0 }, { name := "T_DOUBLE", type := .int, accessFlags := 25, slot := 14, constantValue := 0 }, { name := "T_BYTE", type := .int, accessFlags := 25, slot := 15, constantValue := 0 }, { name := "T_SHORT", type := .int, accessFlags := 25, slot := 16, constantValue := 0 }, { name := "T_INT", type := .int, accessFlags := 25, slot := 17, constantValue := 0 }, { name := "T_LONG", type := .int, accessFlags := 25, slot := 18, constantValue := 0 }, { name := "JLA", type := (.object "jdk/internal/access/JavaLangAccess"), accessFlags := 26, slot := 19, constantValue := 0 }, { name := "SOFT_MAX_ARRAY_LENGTH", type := .int, accessFlags := 25, slot := 20, constantValue := 0 }]
  methods := #[k34m0]
  instanceTypes := #[]
  staticTypes := #[(.object "jdk/internal/misc/Unsafe"), .boolean, .int, .int, .int, .int, .int, .int, .int, .int, .int, .int, .int, .int, .int, .int, .int, .int, .int, (.object "jdk/internal/access/JavaLangAccess"), .int]
  resolved := Array.replicate 378 none
  statics := none }

def pool35 : Array CpInfo := pool [(1, .class_ 2), (0, u "java/lang/Class"), (0, .class_ 4), (0, u "java/lang/Object")] 0

/-- java/lang/Class -/
def k35 : Class := { plain "java/lang/Class" (some 0) with
  accessFlags := 49
  interfaces := #[]
  cf := some (fileOf pool35 1 #[] #[] 49 3 #[] #[])
  fields := #[]
  methods := #[]
  instanceTypes := #[]
  staticTypes := #[]
  resolved := Array.replicate 5 none
  statics := none }

/-- the primitive byte -/
def k36 : Class := { plain "byte" none with kind := .primitive 'B', accessFlags := 0x411 }
/-- [B -/
def k37 : Class := { plain "[B" (some 0) with kind := .array 36 .byte, interfaces := #[16, 2], accessFlags := 1041 }

/-- the primitive char -/
def k38 : Class := { plain "char" none with kind := .primitive 'C', accessFlags := 0x411 }
/-- [C -/
def k39 : Class := { plain "[C" (some 0) with kind := .array 38 .char, interfaces := #[16, 2], accessFlags := 1041 }

/-- the primitive int -/
def k40 : Class := { plain "int" none with kind := .primitive 'I', accessFlags := 0x411 }
/-- [I -/
def k41 : Class := { plain "[I" (some 0) with kind := .array 40 .int, interfaces := #[16, 2], accessFlags := 1041 }

/-- [Ljava/lang/Object; -/
def k42 : Class := { plain "[Ljava/lang/Object;" (some 0) with kind := .array 0 (.object "java/lang/Object"), interfaces := #[16, 2], accessFlags := 1041, mirror := some 4 }

def heap : Heap := #[{ cls := 7, slots := #[.long 0, .int 1, .null, .int 0, .null, .int 0, .int 0], vm := .statics 7 },
  { cls := 17, slots := #[.long 0, .int 0, .ref 5, .ref 6], vm := .statics 17 },
  { cls := 22, slots := #[.null, .null, .null], vm := .statics 22 },
  { cls := 25, slots := #[.long 0, .int 0, .null, .ref 7, .ref 8, .null, .null, .null, .int 0, .int 1], vm := .statics 25 },
  { cls := 35, slots := #[], vm := .mirror 42 },
  { cls := 42, slots := #[], vm := .none },
  { cls := 42, slots := #[], vm := .none },
  { cls := 0, slots := #[], vm := .none },
  { cls := 29, slots := #[.null, .int 0], vm := .none }]
def classes : Array Class := #[k0, k1, k2, k3, k4, k5, k6, k7, k8, k9, k10, k11, k12, k13, k14, k15, k16, k17, k18, k19, k20, k21, k22, k23, k24, k25, k26, k27, k28, k29, k30, k31, k32, k33, k34, k35, k36, k37, k38, k39, k40, k41, k42]
def interned : List (Array UInt16 × Addr) := []
def slotsUsed : Nat := 26
def theMethod : MethodId := ⟨1, 2⟩
def args0 : Array Value := #[.int 5, .int 1, .int 2, .int 3, .int 4]
def aboutOver (below : List Frame) : State where
  vm := { classes := classes, interned := interned.toArray }
  heap := heap
  slotsUsed := slotsUsed
  threads := #[{ frames := .invoking theMethod args0 :: below }]
def below0 : List Frame := [.native { method := ⟨0, 0⟩, args := #[] }]
def about1 : State := aboutOver below0
def p0 : Program := .bare "" "" ""
def e0 : Env := launch0.env 0 0 0
theorem w_frames : about1.frames = Frame.invoking theMethod args0 :: below0 := rfl
set_option maxRecDepth 65536 in
theorem w_args : argsFit about1.vm theMethod args0 = true := by decide +kernel
set_option maxRecDepth 65536 in
theorem w_heap : heapFits about1 = true := by decide +kernel
set_option maxRecDepth 65536 in
theorem w_runnable : about1.curStatus? = some .runnable := by decide +kernel
set_option maxRecDepth 65536 in
theorem w_alone : about1.alone = true := by decide +kernel
set_option maxRecDepth 65536 in
theorem w_named : about1.methodNamed? x = some theMethod := by decide +kernel
set_option maxRecDepth 65536 in
theorem w_hears : about1.hears theMethod below0 = true := by decide +kernel
set_option maxRecDepth 65536 in
theorem w_ripe : about1.ripe theMethod args0 below0 = true := by decide +kernel
theorem w_running : about1.status = .running := rfl
set_option maxRecDepth 65536 in
theorem w_room : about1.hasRoom e0.platform room_1 = true :=
  launch0.hasRoom_least _ room_1 (by decide +kernel) (by decide +kernel) (by decide +kernel) (by decide +kernel) (by decide +kernel) (by decide +kernel)
theorem allAtoms_all (ts : List Jvm.Cond) (a : Array Jvm.Value) (st : Jvm.State) : (allAtoms ts).before a st = ts.all (fun c => c.before a st) := by
  induction ts with
  | nil => rfl
  | cons c t ih =>
    show (Jvm.Cond.and c (allAtoms t)).before a st = _
    rw [Jvm.Cond.before_and, ih, List.all_cons]
def words1 : List Jvm.Cond := Jvm.Cond.code x code maxLocals ret :: tables_1
/-- a 'code' word, met by the world's own term for the bytes: nothing is compared byte by byte -/
theorem code_word {y : MethodName} {bytes : ByteArray} {mx : Nat} {rt : Option FieldType} {a : Array Value} {s : State} {m : MethodId} {meth : Method} {c : Code} (h1 : s.methodNamed? y = some m) (h2 : s.vm.method? m = some meth) (h3 : meth.code = some c) (h4 : c.code = bytes)
    (h5 : (c.maxLocals == mx && c.exceptionTable.isEmpty && decide (c.maxStack ≤ mostOperands) && decide (meth.sig.returnType = rt) && !meth.locks && decide (parseMethodDescriptor y.desc = some meth.sig)) = true) : (Jvm.Cond.code y bytes mx rt).before a s = true := by
  simp only [Bool.and_eq_true, beq_iff_eq, Bool.not_eq_true', decide_eq_true_eq] at h5
  obtain ⟨⟨⟨⟨⟨g1, g2⟩, g3⟩, g4⟩, g5⟩, g6⟩ := h5
  simp [Cond.before, Cond.holds, Cond.value, h1, h2, h3, h4, g1, g2, g3, g4, g5, g6]
def isCode : Jvm.Cond → Bool
  | .code _ _ _ _ => true
  | _ => false
theorem all_split {L : List Jvm.Cond} {P : Jvm.Cond → Bool} (h1 : L.all (fun c => isCode c || P c) = true) (h2 : ∀ c ∈ L.filter isCode, P c = true) : L.all P = true := by
  refine List.all_eq_true.mpr fun c hc => ?_
  have h := List.all_eq_true.mp h1 c hc
  rcases Bool.eq_false_or_eq_true (isCode c) with hi | hi
  · exact h2 c (List.mem_filter.mpr ⟨hc, hi⟩)
  · simpa [hi] using h
set_option maxRecDepth 65536 in
theorem w_c0 : (Jvm.Cond.code x code maxLocals ret).before args0 about1 = true := code_word (m := ⟨1, 2⟩) (meth := k1m2) (c := k1c2) (by decide +kernel) rfl rfl rfl (by decide +kernel)
set_option maxRecDepth 65536 in
theorem w_c1 : (Jvm.Cond.code ({ cls := "com/example/ampersat/ampersat/index/ChainLastPinLaw", name := "str", desc := "(I)Ljava/lang/String;" } : Jvm.MethodName) method_2_code (3 : Nat) (Option.some (Jvm.ClassFile.FieldType.object "java/lang/String"))).before args0 about1 = true := code_word (m := ⟨1, 1⟩) (meth := k1m1) (c := k1c1) (by decide +kernel) rfl rfl rfl (by decide +kernel)
set_option maxRecDepth 65536 in
theorem w_c2 : (Jvm.Cond.code ({ cls := "java/lang/String", name := "valueOf", desc := "(C)Ljava/lang/String;" } : Jvm.MethodName) jdk_42_method_139_code (1 : Nat) (Option.some (Jvm.ClassFile.FieldType.object "java/lang/String"))).before args0 about1 = true := code_word (m := ⟨7, 5⟩) (meth := k7m5) (c := k7c5) (by decide +kernel) rfl rfl rfl (by decide +kernel)
set_option maxRecDepth 65536 in
theorem w_c3 : (Jvm.Cond.code ({ cls := "java/lang/StringLatin1", name := "canEncode", desc := "(C)Z" } : Jvm.MethodName) jdk_43_method_3_code (1 : Nat) (Option.some Jvm.ClassFile.FieldType.boolean)).before args0 about1 = true := code_word (m := ⟨8, 1⟩) (meth := k8m1) (c := k8c1) (by decide +kernel) rfl rfl rfl (by decide +kernel)
set_option maxRecDepth 65536 in
theorem w_c4 : (Jvm.Cond.code ({ cls := "java/lang/StringLatin1", name := "toBytes", desc := "(C)[B" } : Jvm.MethodName) jdk_43_method_46_code (1 : Nat) (Option.some (Jvm.ClassFile.FieldType.array Jvm.ClassFile.FieldType.byte))).before args0 about1 = true := code_word (m := ⟨8, 2⟩) (meth := k8m2) (c := k8c2) (by decide +kernel) rfl rfl rfl (by decide +kernel)
set_option maxRecDepth 65536 in
theorem w_c5 : (Jvm.Cond.code ({ cls := "java/lang/String", name := "<init>", desc := "([BB)V" } : Jvm.MethodName) jdk_42_method_151_code (3 : Nat) (Option.none : Option Jvm.ClassFile.FieldType)).before args0 about1 = true := code_word (m := ⟨7, 9⟩) (meth := k7m9) (c := k7c9) (by decide +kernel) rfl rfl rfl (by decide +kernel)
set_option maxRecDepth 65536 in
theorem w_c6 : (Jvm.Cond.code ({ cls := "java/lang/Object", name := "<init>", desc := "()V" } : Jvm.MethodName) object_method_1_code (1 : Nat) (Option.none : Option Jvm.ClassFile.FieldType)).before args0 about1 = true := code_word (m := ⟨0, 0⟩) (meth := k0m0) (c := k0c0) (by decide +kernel) rfl rfl rfl (by decide +kernel)
set_option maxRecDepth 65536 in
theorem w_c7 : (Jvm.Cond.code ({ cls := "java/util/ArrayList", name := "<init>", desc := "()V" } : Jvm.MethodName) jdk_38_method_2_code (1 : Nat) (Option.none : Option Jvm.ClassFile.FieldType)).before args0 about1 = true := code_word (m := ⟨17, 1⟩) (meth := k17m1) (c := k17c1) (by decide +kernel) rfl rfl rfl (by decide +kernel)
set_option maxRecDepth 65536 in
theorem w_c8 : (Jvm.Cond.code ({ cls := "java/util/AbstractList", name := "<init>", desc := "()V" } : Jvm.MethodName) jdk_39_method_1_code (1 : Nat) (Option.none : Option Jvm.ClassFile.FieldType)).before args0 about1 = true := code_word (m := ⟨14, 0⟩) (meth := k14m0) (c := k14c0) (by decide +kernel) rfl rfl rfl (by decide +kernel)
set_option maxRecDepth 65536 in
theorem w_c9 : (Jvm.Cond.code ({ cls := "java/util/AbstractCollection", name := "<init>", desc := "()V" } : Jvm.MethodName) jdk_22_method_1_code (1 : Nat) (Option.none : Option Jvm.ClassFile.FieldType)).before args0 about1 = true := code_word (m := ⟨11, 0⟩) (meth := k11m0) (c := k11c0) (by decide +kernel) rfl rfl rfl (by decide +kernel)
set_option maxRecDepth 65536 in
theorem w_c10 : (Jvm.Cond.code ({ cls := "java/util/ArrayList", name := "add", desc := "(Ljava/lang/Object;)Z" } : Jvm.MethodName) jdk_38_method_25_code (2 : Nat) (Option.some Jvm.ClassFile.FieldType.boolean)).before args0 about1 = true := code_word (m := ⟨17, 10⟩) (meth := k17m10) (c := k17c10) (by decide +kernel) rfl rfl rfl (by decide +kernel)
set_option maxRecDepth 65536 in
theorem w_c11 : (Jvm.Cond.code ({ cls := "java/util/ArrayList", name := "add", desc := "(Ljava/lang/Object;[Ljava/lang/Object;I)V" } : Jvm.MethodName) jdk_38_method_24_code (4 : Nat) (Option.none : Option Jvm.ClassFile.FieldType)).before args0 about1 = true := code_word (m := ⟨17, 9⟩) (meth := k17m9) (c := k17c9) (by decide +kernel) rfl rfl rfl (by decide +kernel)
set_option maxRecDepth 65536 in
theorem w_c12 : (Jvm.Cond.code ({ cls := "java/util/ArrayList", name := "grow", desc := "()[Ljava/lang/Object;" } : Jvm.MethodName) jdk_38_method_7_code (1 : Nat) (Option.some (Jvm.ClassFile.FieldType.array (Jvm.ClassFile.FieldType.object "java/lang/Object")))).before args0 about1 = true := code_word (m := ⟨17, 3⟩) (meth := k17m3) (c := k17c3) (by decide +kernel) rfl rfl rfl (by decide +kernel)
set_option maxRecDepth 65536 in
theorem w_c13 : (Jvm.Cond.code ({ cls := "java/util/ArrayList", name := "grow", desc := "(I)[Ljava/lang/Object;" } : Jvm.MethodName) jdk_38_method_6_code (4 : Nat) (Option.some (Jvm.ClassFile.FieldType.array (Jvm.ClassFile.FieldType.object "java/lang/Object")))).before args0 about1 = true := code_word (m := ⟨17, 2⟩) (meth := k17m2) (c := k17c2) (by decide +kernel) rfl rfl rfl (by decide +kernel)
set_option maxRecDepth 65536 in
theorem w_c14 : (Jvm.Cond.code ({ cls := "java/lang/Math", name := "max", desc := "(II)I" } : Jvm.MethodName) jdk_29_method_65_code (2 : Nat) (Option.some Jvm.ClassFile.FieldType.int)).before args0 about1 = true := code_word (m := ⟨18, 1⟩) (meth := k18m1) (c := k18c1) (by decide +kernel) rfl rfl rfl (by decide +kernel)
set_option maxRecDepth 65536 in
theorem w_c15 : (Jvm.Cond.code ({ cls := "com/example/ampersat/ampersat/index/MetaChains$Chain", name := "<init>", desc := "(Ljava/util/List;Ljava/lang/String;)V" } : Jvm.MethodName) prog_12_method_1_code (3 : Nat) (Option.none : Option Jvm.ClassFile.FieldType)).before args0 about1 = true := code_word (m := ⟨20, 0⟩) (meth := k20m0) (c := k20c0) (by decide +kernel) rfl rfl rfl (by decide +kernel)
set_option maxRecDepth 65536 in
theorem w_c16 : (Jvm.Cond.code ({ cls := "java/lang/Record", name := "<init>", desc := "()V" } : Jvm.MethodName) jdk_30_method_1_code (1 : Nat) (Option.none : Option Jvm.ClassFile.FieldType)).before args0 about1 = true := code_word (m := ⟨19, 0⟩) (meth := k19m0) (c := k19c0) (by decide +kernel) rfl rfl rfl (by decide +kernel)
set_option maxRecDepth 65536 in
theorem w_c17 : (Jvm.Cond.code ({ cls := "com/example/ampersat/ampersat/index/MetaChains$Chain", name := "last", desc := "()Ljava/lang/String;" } : Jvm.MethodName) prog_12_method_4_code (1 : Nat) (Option.some (Jvm.ClassFile.FieldType.object "java/lang/String"))).before args0 about1 = true := code_word (m := ⟨20, 3⟩) (meth := k20m3) (c := k20c3) (by decide +kernel) rfl rfl rfl (by decide +kernel)
set_option maxRecDepth 65536 in
theorem w_c18 : (Jvm.Cond.code ({ cls := "java/util/ArrayList", name := "size", desc := "()I" } : Jvm.MethodName) jdk_38_method_8_code (1 : Nat) (Option.some Jvm.ClassFile.FieldType.int)).before args0 about1 = true := code_word (m := ⟨17, 4⟩) (meth := k17m4) (c := k17c4) (by decide +kernel) rfl rfl rfl (by decide +kernel)
set_option maxRecDepth 65536 in
theorem w_c19 : (Jvm.Cond.code ({ cls := "java/util/ArrayList", name := "get", desc := "(I)Ljava/lang/Object;" } : Jvm.MethodName) jdk_38_method_20_code (2 : Nat) (Option.some (Jvm.ClassFile.FieldType.object "java/lang/Object"))).before args0 about1 = true := code_word (m := ⟨17, 8⟩) (meth := k17m8) (c := k17c8) (by decide +kernel) rfl rfl rfl (by decide +kernel)
set_option maxRecDepth 65536 in
theorem w_c20 : (Jvm.Cond.code ({ cls := "java/util/Objects", name := "checkIndex", desc := "(II)I" } : Jvm.MethodName) jdk_31_method_17_code (2 : Nat) (Option.some Jvm.ClassFile.FieldType.int)).before args0 about1 = true := code_word (m := ⟨21, 2⟩) (meth := k21m2) (c := k21c2) (by decide +kernel) rfl rfl rfl (by decide +kernel)
set_option maxRecDepth 65536 in
theorem w_c21 : (Jvm.Cond.code ({ cls := "jdk/internal/util/Preconditions", name := "checkIndex", desc := "(IILjava/util/function/BiFunction;)I" } : Jvm.MethodName) jdk_41_method_11_code (3 : Nat) (Option.some Jvm.ClassFile.FieldType.int)).before args0 about1 = true := code_word (m := ⟨22, 1⟩) (meth := k22m1) (c := k22c1) (by decide +kernel) rfl rfl rfl (by decide +kernel)
set_option maxRecDepth 65536 in
theorem w_c22 : (Jvm.Cond.code ({ cls := "java/util/ArrayList", name := "elementData", desc := "(I)Ljava/lang/Object;" } : Jvm.MethodName) jdk_38_method_18_code (2 : Nat) (Option.some (Jvm.ClassFile.FieldType.object "java/lang/Object"))).before args0 about1 = true := code_word (m := ⟨17, 7⟩) (meth := k17m7) (c := k17c7) (by decide +kernel) rfl rfl rfl (by decide +kernel)
set_option maxRecDepth 65536 in
theorem w_c23 : (Jvm.Cond.code ({ cls := "java/lang/String", name := "equals", desc := "(Ljava/lang/Object;)Z" } : Jvm.MethodName) jdk_42_method_66_code (3 : Nat) (Option.some Jvm.ClassFile.FieldType.boolean)).before args0 about1 = true := code_word (m := ⟨7, 4⟩) (meth := k7m4) (c := k7c4) (by decide +kernel) rfl rfl rfl (by decide +kernel)
set_option maxRecDepth 65536 in
theorem w_c24 : (Jvm.Cond.code ({ cls := "com/example/ampersat/ampersat/index/MetaChains$Chain", name := "then", desc := "(Ljava/lang/String;)Lcom/example/ampersat/ampersat/index/MetaChains$Chain;" } : Jvm.MethodName) prog_12_method_3_code (3 : Nat) (Option.some (Jvm.ClassFile.FieldType.object "com/example/ampersat/ampersat/index/MetaChains$Chain"))).before args0 about1 = true := code_word (m := ⟨20, 2⟩) (meth := k20m2) (c := k20c2) (by decide +kernel) rfl rfl rfl (by decide +kernel)
set_option maxRecDepth 65536 in
theorem w_c25 : (Jvm.Cond.code ({ cls := "java/util/ArrayList", name := "<init>", desc := "(I)V" } : Jvm.MethodName) jdk_38_method_1_code (2 : Nat) (Option.none : Option Jvm.ClassFile.FieldType)).before args0 about1 = true := code_word (m := ⟨17, 0⟩) (meth := k17m0) (c := k17c0) (by decide +kernel) rfl rfl rfl (by decide +kernel)
set_option maxRecDepth 65536 in
theorem w_c26 : (Jvm.Cond.code ({ cls := "java/util/ArrayList", name := "addAll", desc := "(Ljava/util/Collection;)Z" } : Jvm.MethodName) jdk_38_method_41_code (6 : Nat) (Option.some Jvm.ClassFile.FieldType.boolean)).before args0 about1 = true := code_word (m := ⟨17, 11⟩) (meth := k17m11) (c := k17c11) (by decide +kernel) rfl rfl rfl (by decide +kernel)
set_option maxRecDepth 65536 in
theorem w_c27 : (Jvm.Cond.code ({ cls := "java/util/ArrayList", name := "toArray", desc := "()[Ljava/lang/Object;" } : Jvm.MethodName) jdk_38_method_16_code (1 : Nat) (Option.some (Jvm.ClassFile.FieldType.array (Jvm.ClassFile.FieldType.object "java/lang/Object")))).before args0 about1 = true := code_word (m := ⟨17, 6⟩) (meth := k17m6) (c := k17c6) (by decide +kernel) rfl rfl rfl (by decide +kernel)
set_option maxRecDepth 65536 in
theorem w_c28 : (Jvm.Cond.code ({ cls := "java/util/Arrays", name := "copyOf", desc := "([Ljava/lang/Object;I)[Ljava/lang/Object;" } : Jvm.MethodName) jdk_65_method_119_code (2 : Nat) (Option.some (Jvm.ClassFile.FieldType.array (Jvm.ClassFile.FieldType.object "java/lang/Object")))).before args0 about1 = true := code_word (m := ⟨23, 1⟩) (meth := k23m1) (c := k23c1) (by decide +kernel) rfl rfl rfl (by decide +kernel)
set_option maxRecDepth 65536 in
theorem w_c29 : (Jvm.Cond.code ({ cls := "java/util/Arrays", name := "copyOf", desc := "([Ljava/lang/Object;ILjava/lang/Class;)[Ljava/lang/Object;" } : Jvm.MethodName) jdk_65_method_120_code (4 : Nat) (Option.some (Jvm.ClassFile.FieldType.array (Jvm.ClassFile.FieldType.object "java/lang/Object")))).before args0 about1 = true := code_word (m := ⟨23, 2⟩) (meth := k23m2) (c := k23c2) (by decide +kernel) rfl rfl rfl (by decide +kernel)
set_option maxRecDepth 65536 in
theorem w_c30 : (Jvm.Cond.code ({ cls := "java/lang/Math", name := "min", desc := "(II)I" } : Jvm.MethodName) jdk_29_method_69_code (2 : Nat) (Option.some Jvm.ClassFile.FieldType.int)).before args0 about1 = true := code_word (m := ⟨18, 2⟩) (meth := k18m2) (c := k18c2) (by decide +kernel) rfl rfl rfl (by decide +kernel)
set_option maxRecDepth 65536 in
theorem w_c31 : (Jvm.Cond.code ({ cls := "java/util/List", name := "copyOf", desc := "(Ljava/util/Collection;)Ljava/util/List;" } : Jvm.MethodName) jdk_40_method_48_code (1 : Nat) (Option.some (Jvm.ClassFile.FieldType.object "java/util/List"))).before args0 about1 = true := code_word (m := ⟨13, 5⟩) (meth := k13m5) (c := k13c5) (by decide +kernel) rfl rfl rfl (by decide +kernel)
set_option maxRecDepth 65536 in
theorem w_c32 : (Jvm.Cond.code ({ cls := "java/util/ImmutableCollections", name := "listCopy", desc := "(Ljava/util/Collection;)Ljava/util/List;" } : Jvm.MethodName) jdk_56_method_3_code (2 : Nat) (Option.some (Jvm.ClassFile.FieldType.object "java/util/List"))).before args0 about1 = true := code_word (m := ⟨25, 1⟩) (meth := k25m1) (c := k25c1) (by decide +kernel) rfl rfl rfl (by decide +kernel)
set_option maxRecDepth 65536 in
theorem w_c33 : (Jvm.Cond.code ({ cls := "java/util/ArrayList", name := "isEmpty", desc := "()Z" } : Jvm.MethodName) jdk_38_method_9_code (1 : Nat) (Option.some Jvm.ClassFile.FieldType.boolean)).before args0 about1 = true := code_word (m := ⟨17, 5⟩) (meth := k17m5) (c := k17c5) (by decide +kernel) rfl rfl rfl (by decide +kernel)
set_option maxRecDepth 65536 in
theorem w_c34 : (Jvm.Cond.code ({ cls := "java/util/List", name := "of", desc := "([Ljava/lang/Object;)Ljava/util/List;" } : Jvm.MethodName) jdk_40_method_47_code (2 : Nat) (Option.some (Jvm.ClassFile.FieldType.object "java/util/List"))).before args0 about1 = true := code_word (m := ⟨13, 4⟩) (meth := k13m4) (c := k13c4) (by decide +kernel) rfl rfl rfl (by decide +kernel)
set_option maxRecDepth 65536 in
theorem w_c35 : (Jvm.Cond.code ({ cls := "java/util/ImmutableCollections$List12", name := "<init>", desc := "(Ljava/lang/Object;Ljava/lang/Object;)V" } : Jvm.MethodName) jdk_44_method_2_code (3 : Nat) (Option.none : Option Jvm.ClassFile.FieldType)).before args0 about1 = true := code_word (m := ⟨28, 0⟩) (meth := k28m0) (c := k28c0) (by decide +kernel) rfl rfl rfl (by decide +kernel)
set_option maxRecDepth 65536 in
theorem w_c36 : (Jvm.Cond.code ({ cls := "java/util/ImmutableCollections$AbstractImmutableList", name := "<init>", desc := "()V" } : Jvm.MethodName) jdk_46_method_1_code (1 : Nat) (Option.none : Option Jvm.ClassFile.FieldType)).before args0 about1 = true := code_word (m := ⟨27, 0⟩) (meth := k27m0) (c := k27c0) (by decide +kernel) rfl rfl rfl (by decide +kernel)
set_option maxRecDepth 65536 in
theorem w_c37 : (Jvm.Cond.code ({ cls := "java/util/ImmutableCollections$AbstractImmutableCollection", name := "<init>", desc := "()V" } : Jvm.MethodName) jdk_47_method_1_code (1 : Nat) (Option.none : Option Jvm.ClassFile.FieldType)).before args0 about1 = true := code_word (m := ⟨26, 0⟩) (meth := k26m0) (c := k26c0) (by decide +kernel) rfl rfl rfl (by decide +kernel)
set_option maxRecDepth 65536 in
theorem w_c38 : (Jvm.Cond.code ({ cls := "java/util/Objects", name := "requireNonNull", desc := "(Ljava/lang/Object;)Ljava/lang/Object;" } : Jvm.MethodName) jdk_31_method_10_code (1 : Nat) (Option.some (Jvm.ClassFile.FieldType.object "java/lang/Object"))).before args0 about1 = true := code_word (m := ⟨21, 1⟩) (meth := k21m1) (c := k21c1) (by decide +kernel) rfl rfl rfl (by decide +kernel)
set_option maxRecDepth 65536 in
theorem w_c39 : (Jvm.Cond.code ({ cls := "java/lang/StringBuilder", name := "<init>", desc := "()V" } : Jvm.MethodName) jdk_67_method_1_code (1 : Nat) (Option.none : Option Jvm.ClassFile.FieldType)).before args0 about1 = true := code_word (m := ⟨32, 0⟩) (meth := k32m0) (c := k32c0) (by decide +kernel) rfl rfl rfl (by decide +kernel)
set_option maxRecDepth 65536 in
theorem w_c40 : (Jvm.Cond.code ({ cls := "java/lang/AbstractStringBuilder", name := "<init>", desc := "(I)V" } : Jvm.MethodName) jdk_68_method_2_code (2 : Nat) (Option.none : Option Jvm.ClassFile.FieldType)).before args0 about1 = true := code_word (m := ⟨31, 1⟩) (meth := k31m1) (c := k31c1) (by decide +kernel) rfl rfl rfl (by decide +kernel)
set_option maxRecDepth 65536 in
theorem w_c41 : (Jvm.Cond.code ({ cls := "java/lang/StringBuilder", name := "append", desc := "(Ljava/lang/String;)Ljava/lang/StringBuilder;" } : Jvm.MethodName) jdk_67_method_7_code (2 : Nat) (Option.some (Jvm.ClassFile.FieldType.object "java/lang/StringBuilder"))).before args0 about1 = true := code_word (m := ⟨32, 1⟩) (meth := k32m1) (c := k32c1) (by decide +kernel) rfl rfl rfl (by decide +kernel)
set_option maxRecDepth 65536 in
theorem w_c42 : (Jvm.Cond.code ({ cls := "java/lang/AbstractStringBuilder", name := "append", desc := "(Ljava/lang/String;)Ljava/lang/AbstractStringBuilder;" } : Jvm.MethodName) jdk_68_method_22_code (3 : Nat) (Option.some (Jvm.ClassFile.FieldType.object "java/lang/AbstractStringBuilder"))).before args0 about1 = true := code_word (m := ⟨31, 4⟩) (meth := k31m4) (c := k31c4) (by decide +kernel) rfl rfl rfl (by decide +kernel)
set_option maxRecDepth 65536 in
theorem w_c43 : (Jvm.Cond.code ({ cls := "java/lang/String", name := "length", desc := "()I" } : Jvm.MethodName) jdk_42_method_54_code (1 : Nat) (Option.some Jvm.ClassFile.FieldType.int)).before args0 about1 = true := code_word (m := ⟨7, 3⟩) (meth := k7m3) (c := k7c3) (by decide +kernel) rfl rfl rfl (by decide +kernel)
set_option maxRecDepth 65536 in
theorem w_c44 : (Jvm.Cond.code ({ cls := "java/lang/String", name := "coder", desc := "()B" } : Jvm.MethodName) jdk_42_method_152_code (1 : Nat) (Option.some Jvm.ClassFile.FieldType.byte)).before args0 about1 = true := code_word (m := ⟨7, 10⟩) (meth := k7m10) (c := k7c10) (by decide +kernel) rfl rfl rfl (by decide +kernel)
set_option maxRecDepth 65536 in
theorem w_c45 : (Jvm.Cond.code ({ cls := "java/lang/AbstractStringBuilder", name := "ensureCapacityInternal", desc := "(I)V" } : Jvm.MethodName) jdk_68_method_9_code (3 : Nat) (Option.none : Option Jvm.ClassFile.FieldType)).before args0 about1 = true := code_word (m := ⟨31, 3⟩) (meth := k31m3) (c := k31c3) (by decide +kernel) rfl rfl rfl (by decide +kernel)
set_option maxRecDepth 65536 in
theorem w_c46 : (Jvm.Cond.code ({ cls := "java/lang/AbstractStringBuilder", name := "putStringAt", desc := "(ILjava/lang/String;)V" } : Jvm.MethodName) jdk_68_method_73_code (3 : Nat) (Option.none : Option Jvm.ClassFile.FieldType)).before args0 about1 = true := code_word (m := ⟨31, 9⟩) (meth := k31m9) (c := k31c9) (by decide +kernel) rfl rfl rfl (by decide +kernel)
set_option maxRecDepth 65536 in
theorem w_c47 : (Jvm.Cond.code ({ cls := "java/lang/AbstractStringBuilder", name := "inflateIfNeededFor", desc := "(Ljava/lang/String;)V" } : Jvm.MethodName) jdk_68_method_71_code (2 : Nat) (Option.none : Option Jvm.ClassFile.FieldType)).before args0 about1 = true := code_word (m := ⟨31, 8⟩) (meth := k31m8) (c := k31c8) (by decide +kernel) rfl rfl rfl (by decide +kernel)
set_option maxRecDepth 65536 in
theorem w_c48 : (Jvm.Cond.code ({ cls := "java/lang/String", name := "getBytes", desc := "([BIB)V" } : Jvm.MethodName) jdk_42_method_147_code (4 : Nat) (Option.none : Option Jvm.ClassFile.FieldType)).before args0 about1 = true := code_word (m := ⟨7, 6⟩) (meth := k7m6) (c := k7c6) (by decide +kernel) rfl rfl rfl (by decide +kernel)
set_option maxRecDepth 65536 in
theorem w_c49 : (Jvm.Cond.code ({ cls := "java/lang/StringBuilder", name := "append", desc := "(C)Ljava/lang/StringBuilder;" } : Jvm.MethodName) jdk_67_method_14_code (2 : Nat) (Option.some (Jvm.ClassFile.FieldType.object "java/lang/StringBuilder"))).before args0 about1 = true := code_word (m := ⟨32, 2⟩) (meth := k32m2) (c := k32c2) (by decide +kernel) rfl rfl rfl (by decide +kernel)
set_option maxRecDepth 65536 in
theorem w_c50 : (Jvm.Cond.code ({ cls := "java/lang/AbstractStringBuilder", name := "append", desc := "(C)Ljava/lang/AbstractStringBuilder;" } : Jvm.MethodName) jdk_68_method_31_code (2 : Nat) (Option.some (Jvm.ClassFile.FieldType.object "java/lang/AbstractStringBuilder"))).before args0 about1 = true := code_word (m := ⟨31, 5⟩) (meth := k31m5) (c := k31c5) (by decide +kernel) rfl rfl rfl (by decide +kernel)
set_option maxRecDepth 65536 in
theorem w_c51 : (Jvm.Cond.code ({ cls := "java/lang/AbstractStringBuilder", name := "isLatin1", desc := "()Z" } : Jvm.MethodName) jdk_68_method_68_code (1 : Nat) (Option.some Jvm.ClassFile.FieldType.boolean)).before args0 about1 = true := code_word (m := ⟨31, 7⟩) (meth := k31m7) (c := k31c7) (by decide +kernel) rfl rfl rfl (by decide +kernel)
set_option maxRecDepth 65536 in
theorem w_c52 : (Jvm.Cond.code ({ cls := "java/lang/StringBuilder", name := "toString", desc := "()Ljava/lang/String;" } : Jvm.MethodName) jdk_67_method_42_code (1 : Nat) (Option.some (Jvm.ClassFile.FieldType.object "java/lang/String"))).before args0 about1 = true := code_word (m := ⟨32, 3⟩) (meth := k32m3) (c := k32c3) (by decide +kernel) rfl rfl rfl (by decide +kernel)
set_option maxRecDepth 65536 in
theorem w_c53 : (Jvm.Cond.code ({ cls := "java/lang/String", name := "<init>", desc := "(Ljava/lang/StringBuilder;)V" } : Jvm.MethodName) jdk_42_method_53_code (2 : Nat) (Option.none : Option Jvm.ClassFile.FieldType)).before args0 about1 = true := code_word (m := ⟨7, 2⟩) (meth := k7m2) (c := k7c2) (by decide +kernel) rfl rfl rfl (by decide +kernel)
set_option maxRecDepth 65536 in
theorem w_c54 : (Jvm.Cond.code ({ cls := "java/lang/String", name := "<init>", desc := "(Ljava/lang/AbstractStringBuilder;Ljava/lang/Void;)V" } : Jvm.MethodName) jdk_42_method_150_code (5 : Nat) (Option.none : Option Jvm.ClassFile.FieldType)).before args0 about1 = true := code_word (m := ⟨7, 8⟩) (meth := k7m8) (c := k7c8) (by decide +kernel) rfl rfl rfl (by decide +kernel)
set_option maxRecDepth 65536 in
theorem w_c55 : (Jvm.Cond.code ({ cls := "java/lang/AbstractStringBuilder", name := "getValue", desc := "()[B" } : Jvm.MethodName) jdk_68_method_64_code (1 : Nat) (Option.some (Jvm.ClassFile.FieldType.array Jvm.ClassFile.FieldType.byte))).before args0 about1 = true := code_word (m := ⟨31, 6⟩) (meth := k31m6) (c := k31c6) (by decide +kernel) rfl rfl rfl (by decide +kernel)
set_option maxRecDepth 65536 in
theorem w_c56 : (Jvm.Cond.code ({ cls := "java/lang/StringBuilder", name := "length", desc := "()I" } : Jvm.MethodName) jdk_67_method_93_code (1 : Nat) (Option.some Jvm.ClassFile.FieldType.int)).before args0 about1 = true := code_word (m := ⟨32, 4⟩) (meth := k32m4) (c := k32c4) (by decide +kernel) rfl rfl rfl (by decide +kernel)
set_option maxRecDepth 65536 in
theorem w_c57 : (Jvm.Cond.code ({ cls := "java/lang/AbstractStringBuilder", name := "length", desc := "()I" } : Jvm.MethodName) jdk_68_method_6_code (1 : Nat) (Option.some Jvm.ClassFile.FieldType.int)).before args0 about1 = true := code_word (m := ⟨31, 2⟩) (meth := k31m2) (c := k31c2) (by decide +kernel) rfl rfl rfl (by decide +kernel)
set_option maxRecDepth 65536 in
theorem w_c58 : (Jvm.Cond.code ({ cls := "java/util/Arrays", name := "copyOfRange", desc := "([BII)[B" } : Jvm.MethodName) jdk_65_method_132_code (3 : Nat) (Option.some (Jvm.ClassFile.FieldType.array Jvm.ClassFile.FieldType.byte))).before args0 about1 = true := code_word (m := ⟨23, 4⟩) (meth := k23m4) (c := k23c4) (by decide +kernel) rfl rfl rfl (by decide +kernel)
set_option maxRecDepth 65536 in
theorem w_c59 : (Jvm.Cond.code ({ cls := "java/util/Arrays", name := "copyOfRangeByte", desc := "([BII)[B" } : Jvm.MethodName) jdk_65_method_133_code (5 : Nat) (Option.some (Jvm.ClassFile.FieldType.array Jvm.ClassFile.FieldType.byte))).before args0 about1 = true := code_word (m := ⟨23, 5⟩) (meth := k23m5) (c := k23c5) (by decide +kernel) rfl rfl rfl (by decide +kernel)
set_option maxRecDepth 65536 in
theorem w_c60 : (Jvm.Cond.code ({ cls := "java/util/Arrays", name := "checkLength", desc := "(II)V" } : Jvm.MethodName) jdk_65_method_131_code (2 : Nat) (Option.none : Option Jvm.ClassFile.FieldType)).before args0 about1 = true := code_word (m := ⟨23, 3⟩) (meth := k23m3) (c := k23c3) (by decide +kernel) rfl rfl rfl (by decide +kernel)
set_option maxRecDepth 65536 in
theorem w_c61 : (Jvm.Cond.code ({ cls := "java/util/ImmutableCollections$List12", name := "size", desc := "()I" } : Jvm.MethodName) jdk_44_method_3_code (1 : Nat) (Option.some Jvm.ClassFile.FieldType.int)).before args0 about1 = true := code_word (m := ⟨28, 1⟩) (meth := k28m1) (c := k28c1) (by decide +kernel) rfl rfl rfl (by decide +kernel)
set_option maxRecDepth 65536 in
theorem w_c62 : (Jvm.Cond.code ({ cls := "java/util/ImmutableCollections$List12", name := "get", desc := "(I)Ljava/lang/Object;" } : Jvm.MethodName) jdk_44_method_5_code (2 : Nat) (Option.some (Jvm.ClassFile.FieldType.object "java/lang/Object"))).before args0 about1 = true := code_word (m := ⟨28, 2⟩) (meth := k28m2) (c := k28c2) (by decide +kernel) rfl rfl rfl (by decide +kernel)
set_option maxRecDepth 65536 in
theorem w_c63 : (Jvm.Cond.code ({ cls := "com/example/ampersat/ampersat/index/MetaChains$Chain", name := "of", desc := "(Ljava/lang/String;Lcom/example/ampersat/ampersat/index/MetaChains$Chain;)Lcom/example/ampersat/ampersat/index/MetaChains$Chain;" } : Jvm.MethodName) prog_12_method_2_code (4 : Nat) (Option.some (Jvm.ClassFile.FieldType.object "com/example/ampersat/ampersat/index/MetaChains$Chain"))).before args0 about1 = true := code_word (m := ⟨20, 1⟩) (meth := k20m1) (c := k20c1) (by decide +kernel) rfl rfl rfl (by decide +kernel)
set_option maxRecDepth 65536 in
theorem w_c64 : (Jvm.Cond.code ({ cls := "com/example/ampersat/ampersat/index/MetaChains$Chain", name := "types", desc := "()Ljava/util/List;" } : Jvm.MethodName) prog_12_method_9_code (1 : Nat) (Option.some (Jvm.ClassFile.FieldType.object "java/util/List"))).before args0 about1 = true := code_word (m := ⟨20, 4⟩) (meth := k20m4) (c := k20c4) (by decide +kernel) rfl rfl rfl (by decide +kernel)
set_option maxRecDepth 65536 in
theorem w_c65 : (Jvm.Cond.code ({ cls := "com/example/ampersat/ampersat/index/MetaChains$Chain", name := "text", desc := "()Ljava/lang/String;" } : Jvm.MethodName) prog_12_method_10_code (1 : Nat) (Option.some (Jvm.ClassFile.FieldType.object "java/lang/String"))).before args0 about1 = true := code_word (m := ⟨20, 5⟩) (meth := k20m5) (c := k20c5) (by decide +kernel) rfl rfl rfl (by decide +kernel)
set_option maxRecDepth 65536 in
theorem w_c66 : (Jvm.Cond.code ({ cls := "java/util/ImmutableCollections", name := "listFromArray", desc := "([Ljava/lang/Object;)Ljava/util/List;" } : Jvm.MethodName) jdk_56_method_4_code (3 : Nat) (Option.some (Jvm.ClassFile.FieldType.object "java/util/List"))).before args0 about1 = true := code_word (m := ⟨25, 2⟩) (meth := k25m2) (c := k25c2) (by decide +kernel) rfl rfl rfl (by decide +kernel)
set_option maxRecDepth 65536 in
theorem w_c67 : (Jvm.Cond.code ({ cls := "java/util/ImmutableCollections$ListN", name := "<init>", desc := "([Ljava/lang/Object;Z)V" } : Jvm.MethodName) jdk_45_method_1_code (3 : Nat) (Option.none : Option Jvm.ClassFile.FieldType)).before args0 about1 = true := code_word (m := ⟨29, 0⟩) (meth := k29m0) (c := k29c0) (by decide +kernel) rfl rfl rfl (by decide +kernel)
set_option maxRecDepth 65536 in
theorem w_c68 : (Jvm.Cond.code ({ cls := "java/util/ImmutableCollections$ListN", name := "size", desc := "()I" } : Jvm.MethodName) jdk_45_method_3_code (1 : Nat) (Option.some Jvm.ClassFile.FieldType.int)).before args0 about1 = true := code_word (m := ⟨29, 1⟩) (meth := k29m1) (c := k29c1) (by decide +kernel) rfl rfl rfl (by decide +kernel)
set_option maxRecDepth 65536 in
theorem w_c69 : (Jvm.Cond.code ({ cls := "java/util/ImmutableCollections$ListN", name := "get", desc := "(I)Ljava/lang/Object;" } : Jvm.MethodName) jdk_45_method_4_code (2 : Nat) (Option.some (Jvm.ClassFile.FieldType.object "java/lang/Object"))).before args0 about1 = true := code_word (m := ⟨29, 2⟩) (meth := k29m2) (c := k29c2) (by decide +kernel) rfl rfl rfl (by decide +kernel)
set_option maxRecDepth 65536 in
theorem w_c70 : (Jvm.Cond.code ({ cls := "java/lang/String", name := "<init>", desc := "([C)V" } : Jvm.MethodName) jdk_42_method_3_code (2 : Nat) (Option.none : Option Jvm.ClassFile.FieldType)).before args0 about1 = true := code_word (m := ⟨7, 1⟩) (meth := k7m1) (c := k7c1) (by decide +kernel) rfl rfl rfl (by decide +kernel)
set_option maxRecDepth 65536 in
theorem w_c71 : (Jvm.Cond.code ({ cls := "java/lang/String", name := "<init>", desc := "([CIILjava/lang/Void;)V" } : Jvm.MethodName) jdk_42_method_149_code (6 : Nat) (Option.none : Option Jvm.ClassFile.FieldType)).before args0 about1 = true := code_word (m := ⟨7, 7⟩) (meth := k7m7) (c := k7c7) (by decide +kernel) rfl rfl rfl (by decide +kernel)
set_option maxRecDepth 65536 in
theorem w_c72 : (Jvm.Cond.code ({ cls := "java/lang/StringUTF16", name := "compress", desc := "([CII)[B" } : Jvm.MethodName) jdk_52_method_16_code (6 : Nat) (Option.some (Jvm.ClassFile.FieldType.array Jvm.ClassFile.FieldType.byte))).before args0 about1 = true := code_word (m := ⟨33, 2⟩) (meth := k33m2) (c := k33c2) (by decide +kernel) rfl rfl rfl (by decide +kernel)
set_option maxRecDepth 65536 in
theorem w_c73 : (Jvm.Cond.code ({ cls := "java/lang/StringUTF16", name := "compress", desc := "([CI[BII)I" } : Jvm.MethodName) jdk_52_method_21_code (7 : Nat) (Option.some Jvm.ClassFile.FieldType.int)).before args0 about1 = true := code_word (m := ⟨33, 3⟩) (meth := k33m3) (c := k33c3) (by decide +kernel) rfl rfl rfl (by decide +kernel)
set_option maxRecDepth 65536 in
theorem w_c74 : (Jvm.Cond.code ({ cls := "java/lang/StringUTF16", name := "coderFromArrayLen", desc := "([BI)B" } : Jvm.MethodName) jdk_52_method_15_code (2 : Nat) (Option.some Jvm.ClassFile.FieldType.byte)).before args0 about1 = true := code_word (m := ⟨33, 1⟩) (meth := k33m1) (c := k33c1) (by decide +kernel) rfl rfl rfl (by decide +kernel)
def codes1 : List Jvm.Cond := [Jvm.Cond.code x code maxLocals ret, Jvm.Cond.code ({ cls := "com/example/ampersat/ampersat/index/ChainLastPinLaw", name := "str", desc := "(I)Ljava/lang/String;" } : Jvm.MethodName) method_2_code (3 : Nat) (Option.some (Jvm.ClassFile.FieldType.object "java/lang/String")), Jvm.Cond.code ({ cls := "java/lang/String", name := "valueOf", desc := "(C)Ljava/lang/String;" } : Jvm.MethodName) jdk_42_method_139_code (1 : Nat) (Option.some (Jvm.ClassFile.FieldType.object "java/lang/String")), Jvm.Cond.code ({ cls := "java/lang/StringLatin1", name := "canEncode", desc := "(C)Z" } : Jvm.MethodName) jdk_43_method_3_code (1 : Nat) (Option.some Jvm.ClassFile.FieldType.boolean), Jvm.Cond.code ({ cls := "java/lang/StringLatin1", name := "toBytes", desc := "(C)[B" } : Jvm.MethodName) jdk_43_method_46_code (1 : Nat) (Option.some (Jvm.ClassFile.FieldType.array Jvm.ClassFile.FieldType.byte)), Jvm.Cond.code ({ cls := "java/lang/String", name := "<init>", desc := "([BB)V" } : Jvm.MethodName) jdk_42_method_151_code (3 : Nat) (Option.none : Option Jvm.ClassFile.FieldType), Jvm.Cond.code ({ cls := "java/lang/Object", name := "<init>", desc := "()V" } : Jvm.MethodName) object_method_1_code (1 : Nat) (Option.none : Option Jvm.ClassFile.FieldType), Jvm.Cond.code ({ cls := "java/util/ArrayList", name := "<init>", desc := "()V" } : Jvm.MethodName) jdk_38_method_2_code (1 : Nat) (Option.none : Option Jvm.ClassFile.FieldType), Jvm.Cond.code ({ cls := "java/util/AbstractList", name := "<init>", desc := "()V" } : Jvm.MethodName) jdk_39_method_1_code (1 : Nat) (Option.none : Option Jvm.ClassFile.FieldType), Jvm.Cond.code ({ cls := "java/util/AbstractCollection", name := "<init>", desc := "()V" } : Jvm.MethodName) jdk_22_method_1_code (1 : Nat) (Option.none : Option Jvm.ClassFile.FieldType), Jvm.Cond.code ({ cls := "java/util/ArrayList", name := "add", desc := "(Ljava/lang/Object;)Z" } : Jvm.MethodName) jdk_38_method_25_code (2 : Nat) (Option.some Jvm.ClassFile.FieldType.boolean), Jvm.Cond.code ({ cls := "java/util/ArrayList", name := "add", desc := "(Ljava/lang/Object;[Ljava/lang/Object;I)V" } : Jvm.MethodName) jdk_38_method_24_code (4 : Nat) (Option.none : Option Jvm.ClassFile.FieldType), Jvm.Cond.code ({ cls := "java/util/ArrayList", name := "grow", desc := "()[Ljava/lang/Object;" } : Jvm.MethodName) jdk_38_method_7_code (1 : Nat) (Option.some (Jvm.ClassFile.FieldType.array (Jvm.ClassFile.FieldType.object "java/lang/Object"))), Jvm.Cond.code ({ cls := "java/util/ArrayList", name := "grow", desc := "(I)[Ljava/lang/Object;" } : Jvm.MethodName) jdk_38_method_6_code (4 : Nat) (Option.some (Jvm.ClassFile.FieldType.array (Jvm.ClassFile.FieldType.object "java/lang/Object"))), Jvm.Cond.code ({ cls := "java/lang/Math", name := "max", desc := "(II)I" } : Jvm.MethodName) jdk_29_method_65_code (2 : Nat) (Option.some Jvm.ClassFile.FieldType.int), Jvm.Cond.code ({ cls := "com/example/ampersat/ampersat/index/MetaChains$Chain", name := "<init>", desc := "(Ljava/util/List;Ljava/lang/String;)V" } : Jvm.MethodName) prog_12_method_1_code (3 : Nat) (Option.none : Option Jvm.ClassFile.FieldType), Jvm.Cond.code ({ cls := "java/lang/Record", name := "<init>", desc := "()V" } : Jvm.MethodName) jdk_30_method_1_code (1 : Nat) (Option.none : Option Jvm.ClassFile.FieldType), Jvm.Cond.code ({ cls := "com/example/ampersat/ampersat/index/MetaChains$Chain", name := "last", desc := "()Ljava/lang/String;" } : Jvm.MethodName) prog_12_method_4_code (1 : Nat) (Option.some (Jvm.ClassFile.FieldType.object "java/lang/String")), Jvm.Cond.code ({ cls := "java/util/ArrayList", name := "size", desc := "()I" } : Jvm.MethodName) jdk_38_method_8_code (1 : Nat) (Option.some Jvm.ClassFile.FieldType.int), Jvm.Cond.code ({ cls := "java/util/ArrayList", name := "get", desc := "(I)Ljava/lang/Object;" } : Jvm.MethodName) jdk_38_method_20_code (2 : Nat) (Option.some (Jvm.ClassFile.FieldType.object "java/lang/Object")), Jvm.Cond.code ({ cls := "java/util/Objects", name := "checkIndex", desc := "(II)I" } : Jvm.MethodName) jdk_31_method_17_code (2 : Nat) (Option.some Jvm.ClassFile.FieldType.int), Jvm.Cond.code ({ cls := "jdk/internal/util/Preconditions", name := "checkIndex", desc := "(IILjava/util/function/BiFunction;)I" } : Jvm.MethodName) jdk_41_method_11_code (3 : Nat) (Option.some Jvm.ClassFile.FieldType.int), Jvm.Cond.code ({ cls := "java/util/ArrayList", name := "elementData", desc := "(I)Ljava/lang/Object;" } : Jvm.MethodName) jdk_38_method_18_code (2 : Nat) (Option.some (Jvm.ClassFile.FieldType.object "java/lang/Object")), Jvm.Cond.code ({ cls := "java/lang/String", name := "equals", desc := "(Ljava/lang/Object;)Z" } : Jvm.MethodName) jdk_42_method_66_code (3 : Nat) (Option.some Jvm.ClassFile.FieldType.boolean), Jvm.Cond.code ({ cls := "com/example/ampersat/ampersat/index/MetaChains$Chain", name := "then", desc := "(Ljava/lang/String;)Lcom/example/ampersat/ampersat/index/MetaChains$Chain;" } : Jvm.MethodName) prog_12_method_3_code (3 : Nat) (Option.some (Jvm.ClassFile.FieldType.object "com/example/ampersat/ampersat/index/MetaChains$Chain")), Jvm.Cond.code ({ cls := "java/util/ArrayList", name := "<init>", desc := "(I)V" } : Jvm.MethodName) jdk_38_method_1_code (2 : Nat) (Option.none : Option Jvm.ClassFile.FieldType), Jvm.Cond.code ({ cls := "java/util/ArrayList", name := "addAll", desc := "(Ljava/util/Collection;)Z" } : Jvm.MethodName) jdk_38_method_41_code (6 : Nat) (Option.some Jvm.ClassFile.FieldType.boolean), Jvm.Cond.code ({ cls := "java/util/ArrayList", name := "toArray", desc := "()[Ljava/lang/Object;" } : Jvm.MethodName) jdk_38_method_16_code (1 : Nat) (Option.some (Jvm.ClassFile.FieldType.array (Jvm.ClassFile.FieldType.object "java/lang/Object"))), Jvm.Cond.code ({ cls := "java/util/Arrays", name := "copyOf", desc := "([Ljava/lang/Object;I)[Ljava/lang/Object;" } : Jvm.MethodName) jdk_65_method_119_code (2 : Nat) (Option.some (Jvm.ClassFile.FieldType.array (Jvm.ClassFile.FieldType.object "java/lang/Object"))), Jvm.Cond.code ({ cls := "java/util/Arrays", name := "copyOf", desc := "([Ljava/lang/Object;ILjava/lang/Class;)[Ljava/lang/Object;" } : Jvm.MethodName) jdk_65_method_120_code (4 : Nat) (Option.some (Jvm.ClassFile.FieldType.array (Jvm.ClassFile.FieldType.object "java/lang/Object"))), Jvm.Cond.code ({ cls := "java/lang/Math", name := "min", desc := "(II)I" } : Jvm.MethodName) jdk_29_method_69_code (2 : Nat) (Option.some Jvm.ClassFile.FieldType.int), Jvm.Cond.code ({ cls := "java/util/List", name := "copyOf", desc := "(Ljava/util/Collection;)Ljava/util/List;" } : Jvm.MethodName) jdk_40_method_48_code (1 : Nat) (Option.some (Jvm.ClassFile.FieldType.object "java/util/List")), Jvm.Cond.code ({ cls := "java/util/ImmutableCollections", name := "listCopy", desc := "(Ljava/util/Collection;)Ljava/util/List;" } : Jvm.MethodName) jdk_56_method_3_code (2 : Nat) (Option.some (Jvm.ClassFile.FieldType.object "java/util/List")), Jvm.Cond.code ({ cls := "java/util/ArrayList", name := "isEmpty", desc := "()Z" } : Jvm.MethodName) jdk_38_method_9_code (1 : Nat) (Option.some Jvm.ClassFile.FieldType.boolean), Jvm.Cond.code ({ cls := "java/util/List", name := "of", desc := "([Ljava/lang/Object;)Ljava/util/List;" } : Jvm.MethodName) jdk_40_method_47_code (2 : Nat) (Option.some (Jvm.ClassFile.FieldType.object "java/util/List")), Jvm.Cond.code ({ cls := "java/util/ImmutableCollections$List12", name := "<init>", desc := "(Ljava/lang/Object;Ljava/lang/Object;)V" } : Jvm.MethodName) jdk_44_method_2_code (3 : Nat) (Option.none : Option Jvm.ClassFile.FieldType), Jvm.Cond.code ({ cls := "java/util/ImmutableCollections$AbstractImmutableList", name := "<init>", desc := "()V" } : Jvm.MethodName) jdk_46_method_1_code (1 : Nat) (Option.none : Option Jvm.ClassFile.FieldType), Jvm.Cond.code ({ cls := "java/util/ImmutableCollections$AbstractImmutableCollection", name := "<init>", desc := "()V" } : Jvm.MethodName) jdk_47_method_1_code (1 : Nat) (Option.none : Option Jvm.ClassFile.FieldType), Jvm.Cond.code ({ cls := "java/util/Objects", name := "requireNonNull", desc := "(Ljava/lang/Object;)Ljava/lang/Object;" } : Jvm.MethodName) jdk_31_method_10_code (1 : Nat) (Option.some (Jvm.ClassFile.FieldType.object "java/lang/Object")), Jvm.Cond.code ({ cls := "java/lang/StringBuilder", name := "<init>", desc := "()V" } : Jvm.MethodName) jdk_67_method_1_code (1 : Nat) (Option.none : Option Jvm.ClassFile.FieldType), Jvm.Cond.code ({ cls := "java/lang/AbstractStringBuilder", name := "<init>", desc := "(I)V" } : Jvm.MethodName) jdk_68_method_2_code (2 : Nat) (Option.none : Option Jvm.ClassFile.FieldType), Jvm.Cond.code ({ cls := "java/lang/StringBuilder", name := "append", desc := "(Ljava/lang/String;)Ljava/lang/StringBuilder;" } : Jvm.MethodName) jdk_67_method_7_code (2 : Nat) (Option.some (Jvm.ClassFile.FieldType.object "java/lang/StringBuilder")), Jvm.Cond.code ({ cls := "java/lang/AbstractStringBuilder", name := "append", desc := "(Ljava/lang/String;)Ljava/lang/AbstractStringBuilder;" } : Jvm.MethodName) jdk_68_method_22_code (3 : Nat) (Option.some (Jvm.ClassFile.FieldType.object "java/lang/AbstractStringBuilder")), Jvm.Cond.code ({ cls := "java/lang/String", name := "length", desc := "()I" } : Jvm.MethodName) jdk_42_method_54_code (1 : Nat) (Option.some Jvm.ClassFile.FieldType.int), Jvm.Cond.code ({ cls := "java/lang/String", name := "coder", desc := "()B" } : Jvm.MethodName) jdk_42_method_152_code (1 : Nat) (Option.some Jvm.ClassFile.FieldType.byte), Jvm.Cond.code ({ cls := "java/lang/AbstractStringBuilder", name := "ensureCapacityInternal", desc := "(I)V" } : Jvm.MethodName) jdk_68_method_9_code (3 : Nat) (Option.none : Option Jvm.ClassFile.FieldType), Jvm.Cond.code ({ cls := "java/lang/AbstractStringBuilder", name := "putStringAt", desc := "(ILjava/lang/String;)V" } : Jvm.MethodName) jdk_68_method_73_code (3 : Nat) (Option.none : Option Jvm.ClassFile.FieldType), Jvm.Cond.code ({ cls := "java/lang/AbstractStringBuilder", name := "inflateIfNeededFor", desc := "(Ljava/lang/String;)V" } : Jvm.MethodName) jdk_68_method_71_code (2 : Nat) (Option.none : Option Jvm.ClassFile.FieldType), Jvm.Cond.code ({ cls := "java/lang/String", name := "getBytes", desc := "([BIB)V" } : Jvm.MethodName) jdk_42_method_147_code (4 : Nat) (Option.none : Option Jvm.ClassFile.FieldType), Jvm.Cond.code ({ cls := "java/lang/StringBuilder", name := "append", desc := "(C)Ljava/lang/StringBuilder;" } : Jvm.MethodName) jdk_67_method_14_code (2 : Nat) (Option.some (Jvm.ClassFile.FieldType.object "java/lang/StringBuilder")), Jvm.Cond.code ({ cls := "java/lang/AbstractStringBuilder", name := "append", desc := "(C)Ljava/lang/AbstractStringBuilder;" } : Jvm.MethodName) jdk_68_method_31_code (2 : Nat) (Option.some (Jvm.ClassFile.FieldType.object "java/lang/AbstractStringBuilder")), Jvm.Cond.code ({ cls := "java/lang/AbstractStringBuilder", name := "isLatin1", desc := "()Z" } : Jvm.MethodName) jdk_68_method_68_code (1 : Nat) (Option.some Jvm.ClassFile.FieldType.boolean), Jvm.Cond.code ({ cls := "java/lang/StringBuilder", name := "toString", desc := "()Ljava/lang/String;" } : Jvm.MethodName) jdk_67_method_42_code (1 : Nat) (Option.some (Jvm.ClassFile.FieldType.object "java/lang/String")), Jvm.Cond.code ({ cls := "java/lang/String", name := "<init>", desc := "(Ljava/lang/StringBuilder;)V" } : Jvm.MethodName) jdk_42_method_53_code (2 : Nat) (Option.none : Option Jvm.ClassFile.FieldType), Jvm.Cond.code ({ cls := "java/lang/String", name := "<init>", desc := "(Ljava/lang/AbstractStringBuilder;Ljava/lang/Void;)V" } : Jvm.MethodName) jdk_42_method_150_code (5 : Nat) (Option.none : Option Jvm.ClassFile.FieldType), Jvm.Cond.code ({ cls := "java/lang/AbstractStringBuilder", name := "getValue", desc := "()[B" } : Jvm.MethodName) jdk_68_method_64_code (1 : Nat) (Option.some (Jvm.ClassFile.FieldType.array Jvm.ClassFile.FieldType.byte)), Jvm.Cond.code ({ cls := "java/lang/StringBuilder", name := "length", desc := "()I" } : Jvm.MethodName) jdk_67_method_93_code (1 : Nat) (Option.some Jvm.ClassFile.FieldType.int), Jvm.Cond.code ({ cls := "java/lang/AbstractStringBuilder", name := "length", desc := "()I" } : Jvm.MethodName) jdk_68_method_6_code (1 : Nat) (Option.some Jvm.ClassFile.FieldType.int), Jvm.Cond.code ({ cls := "java/util/Arrays", name := "copyOfRange", desc := "([BII)[B" } : Jvm.MethodName) jdk_65_method_132_code (3 : Nat) (Option.some (Jvm.ClassFile.FieldType.array Jvm.ClassFile.FieldType.byte)), Jvm.Cond.code ({ cls := "java/util/Arrays", name := "copyOfRangeByte", desc := "([BII)[B" } : Jvm.MethodName) jdk_65_method_133_code (5 : Nat) (Option.some (Jvm.ClassFile.FieldType.array Jvm.ClassFile.FieldType.byte)), Jvm.Cond.code ({ cls := "java/util/Arrays", name := "checkLength", desc := "(II)V" } : Jvm.MethodName) jdk_65_method_131_code (2 : Nat) (Option.none : Option Jvm.ClassFile.FieldType), Jvm.Cond.code ({ cls := "java/util/ImmutableCollections$List12", name := "size", desc := "()I" } : Jvm.MethodName) jdk_44_method_3_code (1 : Nat) (Option.some Jvm.ClassFile.FieldType.int), Jvm.Cond.code ({ cls := "java/util/ImmutableCollections$List12", name := "get", desc := "(I)Ljava/lang/Object;" } : Jvm.MethodName) jdk_44_method_5_code (2 : Nat) (Option.some (Jvm.ClassFile.FieldType.object "java/lang/Object")), Jvm.Cond.code ({ cls := "com/example/ampersat/ampersat/index/MetaChains$Chain", name := "of", desc := "(Ljava/lang/String;Lcom/example/ampersat/ampersat/index/MetaChains$Chain;)Lcom/example/ampersat/ampersat/index/MetaChains$Chain;" } : Jvm.MethodName) prog_12_method_2_code (4 : Nat) (Option.some (Jvm.ClassFile.FieldType.object "com/example/ampersat/ampersat/index/MetaChains$Chain")), Jvm.Cond.code ({ cls := "com/example/ampersat/ampersat/index/MetaChains$Chain", name := "types", desc := "()Ljava/util/List;" } : Jvm.MethodName) prog_12_method_9_code (1 : Nat) (Option.some (Jvm.ClassFile.FieldType.object "java/util/List")), Jvm.Cond.code ({ cls := "com/example/ampersat/ampersat/index/MetaChains$Chain", name := "text", desc := "()Ljava/lang/String;" } : Jvm.MethodName) prog_12_method_10_code (1 : Nat) (Option.some (Jvm.ClassFile.FieldType.object "java/lang/String")), Jvm.Cond.code ({ cls := "java/util/ImmutableCollections", name := "listFromArray", desc := "([Ljava/lang/Object;)Ljava/util/List;" } : Jvm.MethodName) jdk_56_method_4_code (3 : Nat) (Option.some (Jvm.ClassFile.FieldType.object "java/util/List")), Jvm.Cond.code ({ cls := "java/util/ImmutableCollections$ListN", name := "<init>", desc := "([Ljava/lang/Object;Z)V" } : Jvm.MethodName) jdk_45_method_1_code (3 : Nat) (Option.none : Option Jvm.ClassFile.FieldType), Jvm.Cond.code ({ cls := "java/util/ImmutableCollections$ListN", name := "size", desc := "()I" } : Jvm.MethodName) jdk_45_method_3_code (1 : Nat) (Option.some Jvm.ClassFile.FieldType.int), Jvm.Cond.code ({ cls := "java/util/ImmutableCollections$ListN", name := "get", desc := "(I)Ljava/lang/Object;" } : Jvm.MethodName) jdk_45_method_4_code (2 : Nat) (Option.some (Jvm.ClassFile.FieldType.object "java/lang/Object")), Jvm.Cond.code ({ cls := "java/lang/String", name := "<init>", desc := "([C)V" } : Jvm.MethodName) jdk_42_method_3_code (2 : Nat) (Option.none : Option Jvm.ClassFile.FieldType), Jvm.Cond.code ({ cls := "java/lang/String", name := "<init>", desc := "([CIILjava/lang/Void;)V" } : Jvm.MethodName) jdk_42_method_149_code (6 : Nat) (Option.none : Option Jvm.ClassFile.FieldType), Jvm.Cond.code ({ cls := "java/lang/StringUTF16", name := "compress", desc := "([CII)[B" } : Jvm.MethodName) jdk_52_method_16_code (6 : Nat) (Option.some (Jvm.ClassFile.FieldType.array Jvm.ClassFile.FieldType.byte)), Jvm.Cond.code ({ cls := "java/lang/StringUTF16", name := "compress", desc := "([CI[BII)I" } : Jvm.MethodName) jdk_52_method_21_code (7 : Nat) (Option.some Jvm.ClassFile.FieldType.int), Jvm.Cond.code ({ cls := "java/lang/StringUTF16", name := "coderFromArrayLen", desc := "([BI)B" } : Jvm.MethodName) jdk_52_method_15_code (2 : Nat) (Option.some Jvm.ClassFile.FieldType.byte)]
set_option maxRecDepth 65536 in
theorem codes_eq : words1.filter isCode = codes1 := rfl
theorem w_codes : ∀ c ∈ words1.filter isCode, c.before args0 about1 = true := by
  rw [codes_eq]
  intro c hc
  simp only [codes1, List.mem_cons, List.not_mem_nil, or_false] at hc
  rcases hc with rfl | rfl | rfl | rfl | rfl | rfl | rfl | rfl | rfl | rfl | rfl | rfl | rfl | rfl | rfl | rfl | rfl | rfl | rfl | rfl | rfl | rfl | rfl | rfl | rfl | rfl | rfl | rfl | rfl | rfl | rfl | rfl | rfl | rfl | rfl | rfl | rfl | rfl | rfl | rfl | rfl | rfl | rfl | rfl | rfl | rfl | rfl | rfl | rfl | rfl | rfl | rfl | rfl | rfl | rfl | rfl | rfl | rfl | rfl | rfl | rfl | rfl | rfl | rfl | rfl | rfl | rfl | rfl | rfl | rfl | rfl | rfl | rfl | rfl | rfl
  · exact w_c0
  · exact w_c1
  · exact w_c2
  · exact w_c3
  · exact w_c4
  · exact w_c5
  · exact w_c6
  · exact w_c7
  · exact w_c8
  · exact w_c9
  · exact w_c10
  · exact w_c11
  · exact w_c12
  · exact w_c13
  · exact w_c14
  · exact w_c15
  · exact w_c16
  · exact w_c17
  · exact w_c18
  · exact w_c19
  · exact w_c20
  · exact w_c21
  · exact w_c22
  · exact w_c23
  · exact w_c24
  · exact w_c25
  · exact w_c26
  · exact w_c27
  · exact w_c28
  · exact w_c29
  · exact w_c30
  · exact w_c31
  · exact w_c32
  · exact w_c33
  · exact w_c34
  · exact w_c35
  · exact w_c36
  · exact w_c37
  · exact w_c38
  · exact w_c39
  · exact w_c40
  · exact w_c41
  · exact w_c42
  · exact w_c43
  · exact w_c44
  · exact w_c45
  · exact w_c46
  · exact w_c47
  · exact w_c48
  · exact w_c49
  · exact w_c50
  · exact w_c51
  · exact w_c52
  · exact w_c53
  · exact w_c54
  · exact w_c55
  · exact w_c56
  · exact w_c57
  · exact w_c58
  · exact w_c59
  · exact w_c60
  · exact w_c61
  · exact w_c62
  · exact w_c63
  · exact w_c64
  · exact w_c65
  · exact w_c66
  · exact w_c67
  · exact w_c68
  · exact w_c69
  · exact w_c70
  · exact w_c71
  · exact w_c72
  · exact w_c73
  · exact w_c74
set_option maxRecDepth 65536 in
theorem w_t1 : (words1.take 24).all (fun c => isCode c || c.before args0 about1) = true := by decide +kernel
set_option maxRecDepth 65536 in
theorem w_t2 : ((words1.drop 24).take 24).all (fun c => isCode c || c.before args0 about1) = true := by decide +kernel
set_option maxRecDepth 65536 in
theorem w_t3 : (((words1.drop 24).drop 24).take 24).all (fun c => isCode c || c.before args0 about1) = true := by decide +kernel
set_option maxRecDepth 65536 in
theorem w_t4 : ((((words1.drop 24).drop 24).drop 24).take 24).all (fun c => isCode c || c.before args0 about1) = true := by decide +kernel
set_option maxRecDepth 65536 in
theorem w_t5 : (((((words1.drop 24).drop 24).drop 24).drop 24).take 24).all (fun c => isCode c || c.before args0 about1) = true := by decide +kernel
set_option maxRecDepth 65536 in
theorem w_t6 : ((((((words1.drop 24).drop 24).drop 24).drop 24).drop 24).take 24).all (fun c => isCode c || c.before args0 about1) = true := by decide +kernel
set_option maxRecDepth 65536 in
theorem w_t7 : (((((((words1.drop 24).drop 24).drop 24).drop 24).drop 24).drop 24).take 24).all (fun c => isCode c || c.before args0 about1) = true := by decide +kernel
set_option maxRecDepth 65536 in
theorem w_t8 : ((((((((words1.drop 24).drop 24).drop 24).drop 24).drop 24).drop 24).drop 24).take 24).all (fun c => isCode c || c.before args0 about1) = true := by decide +kernel
set_option maxRecDepth 65536 in
theorem w_t9 : (((((((((words1.drop 24).drop 24).drop 24).drop 24).drop 24).drop 24).drop 24).drop 24).take 24).all (fun c => isCode c || c.before args0 about1) = true := by decide +kernel
set_option maxRecDepth 65536 in
theorem w_t10 : ((((((((((words1.drop 24).drop 24).drop 24).drop 24).drop 24).drop 24).drop 24).drop 24).drop 24).take 24).all (fun c => isCode c || c.before args0 about1) = true := by decide +kernel
set_option maxRecDepth 65536 in
theorem w_t11 : (((((((((((words1.drop 24).drop 24).drop 24).drop 24).drop 24).drop 24).drop 24).drop 24).drop 24).drop 24).take 24).all (fun c => isCode c || c.before args0 about1) = true := by decide +kernel
set_option maxRecDepth 65536 in
theorem w_t12 : ((((((((((((words1.drop 24).drop 24).drop 24).drop 24).drop 24).drop 24).drop 24).drop 24).drop 24).drop 24).drop 24).take 24).all (fun c => isCode c || c.before args0 about1) = true := by decide +kernel
set_option maxRecDepth 65536 in
theorem w_t13 : (((((((((((((words1.drop 24).drop 24).drop 24).drop 24).drop 24).drop 24).drop 24).drop 24).drop 24).drop 24).drop 24).drop 24).take 24).all (fun c => isCode c || c.before args0 about1) = true := by decide +kernel
set_option maxRecDepth 65536 in
theorem w_t14 : ((((((((((((((words1.drop 24).drop 24).drop 24).drop 24).drop 24).drop 24).drop 24).drop 24).drop 24).drop 24).drop 24).drop 24).drop 24).take 24).all (fun c => isCode c || c.before args0 about1) = true := by decide +kernel
set_option maxRecDepth 65536 in
theorem w_t15 : (((((((((((((((words1.drop 24).drop 24).drop 24).drop 24).drop 24).drop 24).drop 24).drop 24).drop 24).drop 24).drop 24).drop 24).drop 24).drop 24).take 24).all (fun c => isCode c || c.before args0 about1) = true := by decide +kernel
set_option maxRecDepth 65536 in
theorem w_t16 : ((((((((((((((((words1.drop 24).drop 24).drop 24).drop 24).drop 24).drop 24).drop 24).drop 24).drop 24).drop 24).drop 24).drop 24).drop 24).drop 24).drop 24).take 24).all (fun c => isCode c || c.before args0 about1) = true := by decide +kernel
set_option maxRecDepth 65536 in
theorem w_t17 : (((((((((((((((((words1.drop 24).drop 24).drop 24).drop 24).drop 24).drop 24).drop 24).drop 24).drop 24).drop 24).drop 24).drop 24).drop 24).drop 24).drop 24).drop 24).take 24).all (fun c => isCode c || c.before args0 about1) = true := by decide +kernel
set_option maxRecDepth 65536 in
theorem w_t18 : ((((((((((((((((((words1.drop 24).drop 24).drop 24).drop 24).drop 24).drop 24).drop 24).drop 24).drop 24).drop 24).drop 24).drop 24).drop 24).drop 24).drop 24).drop 24).drop 24).take 24).all (fun c => isCode c || c.before args0 about1) = true := by decide +kernel
set_option maxRecDepth 65536 in
theorem w_t19 : ((((((((((((((((((words1.drop 24).drop 24).drop 24).drop 24).drop 24).drop 24).drop 24).drop 24).drop 24).drop 24).drop 24).drop 24).drop 24).drop 24).drop 24).drop 24).drop 24).drop 24).all (fun c => isCode c || c.before args0 about1) = true := by decide +kernel
theorem w_tables : (allAtoms (Jvm.Cond.code x code maxLocals ret :: tables_1)).before args0 about1 = true := by
  rw [allAtoms_all]
  show words1.all (fun c => c.before args0 about1) = true
  refine all_split ?_ w_codes
  rw [← List.take_append_drop 24 words1, List.all_append, w_t1, ← List.take_append_drop 24 (words1.drop 24), List.all_append, w_t2, ← List.take_append_drop 24 ((words1.drop 24).drop 24), List.all_append, w_t3, ← List.take_append_drop 24 (((words1.drop 24).drop 24).drop 24), List.all_append, w_t4, ← List.take_append_drop 24 ((((words1.drop 24).drop 24).drop 24).drop 24), List.all_append, w_t5, ← List.take_append_drop 24 (((((words1.drop 24).drop 24).drop 24).drop 24).drop 24), List.all_append, w_t6, ← List.take_append_drop 24 ((((((words1.drop 24).drop 24).drop 24).drop 24).drop 24).drop 24), List.all_append, w_t7, ← List.take_append_drop 24 (((((((words1.drop 24).drop 24).drop 24).drop 24).drop 24).drop 24).drop 24), List.all_append, w_t8, ← List.take_append_drop 24 ((((((((words1.drop 24).drop 24).drop 24).drop 24).drop 24).drop 24).drop 24).drop 24), List.all_append, w_t9, ← List.take_append_drop 24 (((((((((words1.drop 24).drop 24).drop 24).drop 24).drop 24).drop 24).drop 24).drop 24).drop 24), List.all_append, w_t10, ← List.take_append_drop 24 ((((((((((words1.drop 24).drop 24).drop 24).drop 24).drop 24).drop 24).drop 24).drop 24).drop 24).drop 24), List.all_append, w_t11, ← List.take_append_drop 24 (((((((((((words1.drop 24).drop 24).drop 24).drop 24).drop 24).drop 24).drop 24).drop 24).drop 24).drop 24).drop 24), List.all_append, w_t12, ← List.take_append_drop 24 ((((((((((((words1.drop 24).drop 24).drop 24).drop 24).drop 24).drop 24).drop 24).drop 24).drop 24).drop 24).drop 24).drop 24), List.all_append, w_t13, ← List.take_append_drop 24 (((((((((((((words1.drop 24).drop 24).drop 24).drop 24).drop 24).drop 24).drop 24).drop 24).drop 24).drop 24).drop 24).drop 24).drop 24), List.all_append, w_t14, ← List.take_append_drop 24 ((((((((((((((words1.drop 24).drop 24).drop 24).drop 24).drop 24).drop 24).drop 24).drop 24).drop 24).drop 24).drop 24).drop 24).drop 24).drop 24), List.all_append, w_t15, ← List.take_append_drop 24 (((((((((((((((words1.drop 24).drop 24).drop 24).drop 24).drop 24).drop 24).drop 24).drop 24).drop 24).drop 24).drop 24).drop 24).drop 24).drop 24).drop 24), List.all_append, w_t16, ← List.take_append_drop 24 ((((((((((((((((words1.drop 24).drop 24).drop 24).drop 24).drop 24).drop 24).drop 24).drop 24).drop 24).drop 24).drop 24).drop 24).drop 24).drop 24).drop 24).drop 24), List.all_append, w_t17, ← List.take_append_drop 24 (((((((((((((((((words1.drop 24).drop 24).drop 24).drop 24).drop 24).drop 24).drop 24).drop 24).drop 24).drop 24).drop 24).drop 24).drop 24).drop 24).drop 24).drop 24).drop 24), List.all_append, w_t18, w_t19]
  rfl
set_option maxRecDepth 65536 in
theorem w_rest : rest_1_c.before args0 about1 = true := by decide +kernel
set_option maxRecDepth 65536 in
theorem w_case : (Jvm.Cond.and given_1 narrow_1).before args0 about1 = true := by decide +kernel
theorem w_applies : (headSpec (Jvm.Cond.code x code maxLocals ret :: tables_1) room_1).applies x e0.platform about1 = true :=
  (Spec.applies_iff w_frames).mpr ⟨w_running, w_runnable, w_alone, w_named, w_hears, w_ripe, w_room, w_tables⟩
theorem atStart : AtStart classFile x code maxLocals ret World_1 tables_1 room_1 Calls_1 rest_1 Pre_1 launch0 p0 e0 about1 theMethod args0 below0 :=
  ⟨lists_1, trivial, launch0.admits_env _ _ _, launch0.least_env, fairChoices_fair.cas, fairChoices_fair.clock, w_frames, w_args, w_heap, w_applies, ⟨⟨42, k42, 4, by decide +kernel, rfl, rfl, _, rfl, rfl⟩, trivial⟩, w_rest, w_case⟩
end start1
theorem witness_1 : WitnessClaimed_1 := ⟨start1.p0, start1.e0, start1.about1, start1.theMethod, start1.args0, start1.below0, start1.atStart⟩
end Jvm.Pilot.@@N@@
