import JvmDerived
import JvmDerived.Pilot.@@N@@Statement
import JvmDerived.Pilot.@@N@@Code
set_option linter.unusedVariables false
set_option linter.unusedSimpArgs false
namespace Jvm.RoadKit
open Sem ClassFile Op Lib Jvm.Stand Jvm.Free Jvm.LawKit
section OwnKit
abbrev vI (x : Int32) : Slot := .val (.int x)
abbrev vR (a : Addr) : Slot := .val (.ref a)
variable {p : Program} {l : Launch} {e : Env} {R : Room} {s : State} {m : MethodId} {args : Array Value} {below : List Frame} {meth : Method} {c : Code} {T T' : State} {locs : List Loc} {cells slots : Nat} {g g' : JFrame} {P : State → Outcome → Prop} {Z : State} {h h' h2 : Heap} {a b : Addr} {sl : Nat} {v : Value}
def Rch (p : Program) (e : Env) (below : List Frame) (T : State) (g : JFrame) (P : State → Outcome → Prop) : Prop := ∃ s₂ o, Steps p.tables e below (T.setTop g) s₂ ∧ s₂.status = .running ∧ Ended s₂ below o ∧ P s₂ o
theorem Rch.st (st : ∀ t, Steps p.tables e below (T'.setTop g') t → Steps p.tables e below (T.setTop g) t) (r : Rch p e below T' g' P) : Rch p e below T g P := by
  obtain ⟨s₂, o, h1, h2⟩ := r
  exact ⟨s₂, o, st _ h1, h2⟩
theorem Rch.go (st : Steps p.tables e below (T.setTop g) (T'.setTop g')) (r : Rch p e below T' g' P) : Rch p e below T g P := Rch.st (fun _ k => st.trans k) r
theorem Rch.cast (q : g = g') (r : Rch p e below T g' P) : Rch p e below T g P := q ▸ r
theorem Rch.fin (X : Stand p l e R s m args below meth c T locs cells slots) {v : Option Value} (hv : meth.sig.returnType = none → v = none) (hlk : meth.locks = false) {Q : Option Value → Heap → List Loc → Prop} {k n : Nat}
    (hret : ∀ fs, (∀ (f : JFrame) (acts : List Action), f.method = m → f.locked = none → f.entered = [] → (doReturn e (T.setTop f) acts v).1 = T.setFrames fs) → Steps p.tables e below (T.setTop g) (T.setFrames fs))
    (hq : Q v T.heap locs) (hk : cells ≤ k) (hn : slots ≤ n) : Rch p e below T g (fun U o => ∃ v L, o = .returned v ∧ Q v U.heap L ∧ FrameEnd s o U L k n) := by
  obtain ⟨fs, hr, hrun, hended, hW, hsame⟩ := X.leave hv hlk
  exact ⟨_, _, hret fs hr, hrun, hended, _, _, rfl, hq, ⟨_, rfl⟩, hW, hsame.mono hk hn⟩
theorem Rch.finW {vm0 : Vm} {EL : List (String × Nat)} {a0 : Array Value} (X : Stand p l e R (s.setVm vm0) m args below meth c T locs cells slots) (hZ : Z.Warmed39 vm0) (hEL : EW Z a0 EL) {k0 : Nat} (hS : s.Since vm0 k0) (hk0 : k0 ≤ T.heap.size) (eT : T.heap = h) (hC : CHr Z EL s.vm s.heap vm0 h) {v : Option Value} (hv : meth.sig.returnType = none → v = none) (hlk : meth.locks = false) {Q : Option Value → Heap → List Loc → Prop} {k n : Nat}
    (hret : ∀ fs, (∀ (f : JFrame) (acts : List Action), f.method = m → f.locked = none → f.entered = [] → (doReturn e (T.setTop f) acts v).1 = T.setFrames fs) → Steps p.tables e below (T.setTop g) (T.setFrames fs))
    (hq : Q v T.heap locs) (hk : cells ≤ k) (hn : slots ≤ n) : Rch p e below T g (fun U o => ∃ v L, o = .returned v ∧ Q v U.heap L ∧ CHr Z EL s.vm s.heap U.vm U.heap ∧ ReturnedEndW s o U L k n) := by
  obtain ⟨fs, hr, hrun, hended, q1, q2, q3, q4⟩ := X.leaveW hS hk0 hv hlk
  subst eT
  exact ⟨_, _, hret fs hr, hrun, hended, _, _, rfl, hq, hC.trans (show CHr Z EL vm0 T.heap T.vm T.heap from CHv.at X hZ hEL hC.1), q1, q2, q3, q4.mono hk hn⟩
theorem retR (X : Stand p l e R s m args below meth c T locs cells slots) (hx : p.tables.exec = Jvm.exec) {pc : Nat} {Ls : Array Slot} {w : Value} {t : FieldType} {rest : List Value} (hret : meth.sig.returnType = some t) (ht : t.isReference = true) (hw : w.isRef = true) (hd : decode c.code pc = .ok (.areturn, 1)) {fs : List Frame}
    (hl : ∀ (f : JFrame) (acts : List Action), f.method = m → f.locked = none → f.entered = [] → (doReturn e (T.setTop f) acts (some w)).1 = T.setFrames fs) : Steps p.tables e below (T.setTop (mkF m pc Ls (w :: rest))) (T.setFrames fs) :=
  retOut X hx hret (by cases t <;> first | rfl | cases ht) (Or.inr (Or.inr (Or.inr (Or.inr ⟨rfl, ht, hw⟩)))) hd hl
theorem retI (X : Stand p l e R s m args below meth c T locs cells slots) (hx : p.tables.exec = Jvm.exec) {pc : Nat} {Ls : Array Slot} {z : Int32} {rest : List Value} (hret : meth.sig.returnType = some .int) (hd : decode c.code pc = .ok (.ireturn, 1)) {fs : List Frame}
    (hl : ∀ (f : JFrame) (acts : List Action), f.method = m → f.locked = none → f.entered = [] → (doReturn e (T.setTop f) acts (some (.int z))).1 = T.setFrames fs) : Steps p.tables e below (T.setTop (mkF m pc Ls (.int z :: rest))) (T.setFrames fs) :=
  retOut X hx hret rfl (Or.inl ⟨rfl, Or.inl rfl, _, rfl⟩) hd hl
theorem Ext.rf : Ext h h := ⟨Nat.le_refl _, fun _ _ q => q⟩
theorem Ext.tr (A : Ext h h') (B : Ext h' h2) : Ext h h2 := ⟨Nat.le_trans A.1 B.1, fun x c q => B.2 x c (A.2 x c q)⟩
theorem extKeep {ws : List Addr} (A : Ext h h') (K : Keep h' h2 ws) (q : ∀ x ∈ ws, h.size ≤ x) : Ext h h2 := ⟨Nat.le_trans A.1 K.1, fun x c r => K.2.1 x c (A.2 x c r) (fun z => absurd (Array.getElem?_eq_some_iff.mp r).1 (Nat.not_lt.mpr (q x z)))⟩
theorem extWr (A : Ext h h') (W : Wr h' h2 a sl v) (q : h.size ≤ a) : Ext h h2 := extKeep A (Keep.of_wr W) (allS q all0)
theorem extKeep1 (A : Ext h h') (K : Keep h' h2 [a]) (q : h.size ≤ a) : Ext h h2 := extKeep A K (allS q all0)
theorem Ext.keep (A : Ext h h') (ws : List Addr) : Keep h h' ws := ⟨A.1, fun x c q _ => A.2 x c q, fun x c q => ⟨c, A.2 x c q, rfl, rfl, rfl⟩⟩
theorem fr_app {k : Nat} {L L' : List Loc} (N : Fr k L) (N' : Fr k L') : Fr k (L ++ L') := Fr.app N N'
theorem stCv {n0 : Nat} (X : Stand p l e R s m args below meth c T locs cells slots) (hx : p.tables.exec = Jvm.exec) (hZ : Z.Warmed39 s.vm) (eT : T.heap = h) {k : ClassId} {z : Int32} {vs : List Value} (M : Arv Z h b k .char z vs (.int 0)) (N : Fr n0 locs) (hb : n0 ≤ b) {j x : Int32} (hj : ¬ j < 0 ∧ j < z) (i : Nat) (hi : j.toNatClampNeg = i) (hl : i < vs.length) {g : JFrame} (hg : g.method = m) {rest : List Value} (hs : g.stack = .int x :: .int j :: .ref b :: rest) (hd : decode c.code g.pc = .ok (.castore, 1)) :
    ∃ T' h' locs' sl, Stand p l e R s m args below meth c T' locs' cells slots ∧ T'.heap = h' ∧ Wr h h' b sl (.int (nar .char x)) ∧ Arv Z h' b k .char z (vs.set i (.int (nar .char x))) (.int 0) ∧ Fr n0 locs' ∧ ∀ target, Steps p.tables e below (T'.setTop { g with pc := g.pc + 1, stack := rest }) target → Steps p.tables e below (T.setTop g) target := by
  obtain ⟨cl, A, q1, S, q3, H, G⟩ := M
  obtain ⟨T', h', X', e', W, st⟩ := stC X hx hZ eT A (inb_of S hj) hg hs hd
  exact ⟨T', h', _, _, X', e', W, Arv.set A q1 S q3 H G (fits_nar_char _) W i hi hl, Fr.snoc X' N hb, st⟩
theorem aalA (X : Stand p l e R s m args below meth c T locs cells slots) (hx : p.tables.exec = Jvm.exec) (hZ : Z.Warmed39 s.vm) (eT : T.heap = h) {k : ClassId} {ty : FieldType} {z : Int32} {vs : List Value} {dv : Value} (M : Arh Z h b k ty z [] vs dv) (hr : ty.isReference = true) {j : Int32} (hj : ¬ j < 0 ∧ j < z) {v : Value} (hv : vs.getD j.toNatClampNeg dv = v) {g : JFrame} (hg : g.method = m) {rest : List Value} (hs : g.stack = .int j :: .ref b :: rest) (hd : decode c.code g.pc = .ok (.aaload, 1)) :
    ∀ target, Steps p.tables e below (T.setTop { g with pc := g.pc + 1, stack := v :: rest }) target → Steps p.tables e below (T.setTop g) target := by
  obtain ⟨cl, A, q1, S, q3, H, G⟩ := M
  exact fun t k => X.aaload hx (j := j) (v := v) (by rw [eT]; exact A.1) (State.isArrayOf_alike hZ.alike A.2.1) hr A.2.2 (inb_of S hj) (atH H (inb_of S hj) hv) hg hs hd _ k
theorem alenA (X : Stand p l e R s m args below meth c T locs cells slots) (hx : p.tables.exec = Jvm.exec) (hZ : Z.Warmed39 s.vm) (eT : T.heap = h) {k : ClassId} {ty : FieldType} {z : Int32} {hs' : List (Int32 × Value)} {vs : List Value} {dv : Value} (M : Arh Z h b k ty z hs' vs dv) {g : JFrame} (hg : g.method = m) {rest : List Value} (hs : g.stack = .ref b :: rest) (hd : decode c.code g.pc = .ok (.arraylength, 1)) :
    ∀ target, Steps p.tables e below (T.setTop { g with pc := g.pc + 1, stack := .int z :: rest }) target → Steps p.tables e below (T.setTop g) target := by
  obtain ⟨cl, A, q1, S, q3, H, G⟩ := M
  intro t k
  refine X.arraylength hx (by rw [eT]; exact A.1) (State.isArrayOf_alike hZ.alike A.2.1) hg hs hd _ ?_
  rw [len_of S q3]
  exact k
end OwnKit
section OwnStart
variable {args : Array Value} {s : State} {t u : Term} {a w : Addr} {cl : Cell}
theorem len_is {n : Int32} (ht : t.eval args s none [] s = some (.ref a)) (hc : s.heap[a]? = some cl) (h : (Cond.eq (.length t) (.int n)).value args s none s [] = some true) : cl.slots.size < 2 ^ 31 ∧ cl.slots.size.toInt32 = n := by
  obtain ⟨x, y, e1, e2, -⟩ := cmp_v (Or.inl h)
  obtain ⟨a', cell, h1, h2, rfl⟩ := Term.length_spec e1
  cases ht.symm.trans h1
  cases hc.symm.trans (State.arrayAt?_spec h2).1
  have q := gotT (Cond.eq_ints e1 (Term.int_eval n)) h
  refine ⟨?_, q⟩
  by_cases hl : cl.slots.size < 2 ^ 31
  · exact hl
  · simp [Term.eval, h1, h2, hl] at e1
theorem elem_ref {j : Int32} (ht : t.eval args s none [] s = some (.ref a)) (hu : u.eval args s none [] s = some (.ref w)) (hc : s.heap[a]? = some cl) (h : (Cond.eq (.elem t (.int j)) u).value args s none s [] = some true) : cl.slots[j.toNatClampNeg]? = some (.ref w) := by
  obtain ⟨x, y, e1, e2, k1, k2⟩ := cmp_v (Or.inl h)
  cases hu.symm.trans e2
  obtain ⟨-, q⟩ := elem_in e1 ht (Term.int_eval j) hc
  have hx : x.isRef = true := k2.2
  have := gotT (eq_R e1 e2 hx rfl) h
  rw [this] at q; exact q
theorem elem_int {j z : Int32} (ht : t.eval args s none [] s = some (.ref a)) (hc : s.heap[a]? = some cl) (h : (Cond.eq (.elem t (.int j)) (.int z)).value args s none s [] = some true) : cl.slots[j.toNatClampNeg]? = some (.int z) := by
  obtain ⟨x, y, e1, e2, k1, k2⟩ := cmp_v (Or.inl h)
  cases (Term.int_eval z).symm.trans e2
  obtain ⟨-, q⟩ := elem_in e1 ht (Term.int_eval j) hc
  obtain ⟨x', rfl⟩ := k2
  have := gotT (Cond.eq_ints e1 (Term.int_eval z)) h
  rw [this] at q; exact q
theorem fld_int {C n d : String} {z : Int32} (ht : t.eval args s none [] s = some (.ref a)) (h : (Cond.eq (.field t C n d) (.int z)).value args s none s [] = some true) : Fld s s.heap a C n d (.int z) := by
  obtain ⟨x, y, e1, e2, k1, k2⟩ := cmp_v (Or.inl h)
  cases (Term.int_eval z).symm.trans e2
  obtain ⟨x', rfl⟩ := k2
  have q := gotT (Cond.eq_ints e1 (Term.int_eval z)) h
  rw [q, fld_at ht] at e1
  exact Fld.start e1
theorem fld_refS {C n d : String} (ht : t.eval args s none [] s = some (.ref a)) (h : (Term.field t C n d).eval args s none [] s = some (.ref w)) : Fld s s.heap a C n d (.ref w) := by
  rw [fld_at ht] at h
  exact Fld.start h
end OwnStart
end Jvm.RoadKit
namespace Jvm.RoadKit
open Sem ClassFile Op Lib Jvm.Stand Jvm.Free Jvm.LawKit
section OwnKit2
variable {p : Program} {l : Launch} {e : Env} {R : Room} {s : State} {m : MethodId} {args : Array Value} {below : List Frame} {meth : Method} {c : Code} {T T' : State} {locs : List Loc} {cells slots : Nat} {Z : State} {h h' h2 : Heap} {a b : Addr} {sl : Nat} {v : Value}
theorem fits_nar_b (x : Int32) : fits .byte (.int (nar .byte x)) = true := fits_nar_byte x
theorem stBv {n0 : Nat} (X : Stand p l e R s m args below meth c T locs cells slots) (hx : p.tables.exec = Jvm.exec) (hZ : Z.Warmed39 s.vm) (eT : T.heap = h) {k : ClassId} {z : Int32} {vs : List Value} (M : Arv Z h b k .byte z vs (.int 0)) (N : Fr n0 locs) (hb : n0 ≤ b) {j x : Int32} (hj : ¬ j < 0 ∧ j < z) (i : Nat) (hi : j.toNatClampNeg = i) (hl : i < vs.length) {g : JFrame} (hg : g.method = m) {rest : List Value} (hs : g.stack = .int x :: .int j :: .ref b :: rest) (hd : decode c.code g.pc = .ok (.bastore, 1)) :
    ∃ T' h' locs' sl, Stand p l e R s m args below meth c T' locs' cells slots ∧ T'.heap = h' ∧ Wr h h' b sl (.int (nar .byte x)) ∧ Arv Z h' b k .byte z (vs.set i (.int (nar .byte x))) (.int 0) ∧ Fr n0 locs' ∧ ∀ target, Steps p.tables e below (T'.setTop { g with pc := g.pc + 1, stack := rest }) target → Steps p.tables e below (T.setTop g) target := by
  obtain ⟨cl, A, q1, S, q3, H, G⟩ := M
  obtain ⟨T', h', X', e', W, st⟩ := stB X hx hZ eT A (inb_of S hj) hg hs hd
  exact ⟨T', h', _, _, X', e', W, Arv.set A q1 S q3 H G (fits_nar_b _) W i hi hl, Fr.snoc X' N hb, st⟩
end OwnKit2
end Jvm.RoadKit
namespace Jvm.RoadKit
open Sem ClassFile Op Lib Bundle Jvm.Stand Jvm.Free Jvm.LawKit Jvm.Free.SB Jvm.Free.SBG
section OwnSafe
variable {Z : State} {EL : List (String × Nat)} {vm : Vm} {h : Heap}
/-- a String whose value is still null is no booked one -/
theorem Safe.blank {x : Addr} (hal : Z.vm.Alike vm) (E : Exa Z h x "java/lang/String") (F : Fld Z h x "java/lang/String" "value" "[B" .null) : Safe Z EL vm h x := fun B => by
  obtain ⟨p, -, u, a, -, q, -, G, rfl | rfl⟩ := B
  · obtain ⟨cell, cf, k, i, f, h1, h2, -, -, -, -, h7⟩ := F
    obtain ⟨cS, ⟨⟨s1, -, -, ⟨cv, kv, iv, s4, -⟩, -, -, -, s8, -⟩, -⟩, -⟩ := G
    cases h1.symm.trans (show h[q.sa]? = some q.sC from s1)
    obtain ⟨k3, e3, -⟩ := State.fieldFound?_setVm (s := Z) hal h2
    have e4 := (show (Wst Z vm h).fieldFound? _ _ _ = _ from e3).symm.trans s4
    simp only [Option.some.injEq, Prod.mk.injEq] at e4
    rw [← e4.2.2.2, h7] at s8
    cases s8
  · obtain ⟨cell, k, e1, e2, e3, -, -⟩ := E
    cases (show h[q.sd]? = some q.SA from G.hd).symm.trans e1
    obtain ⟨cS, -, -, f, -⟩ := G
    have f' : vm.findClass "[B" = some q.SA.cls := f
    rw [hal.findClass] at f'
    obtain ⟨k1, q1, q2⟩ := Vm.findClass_spec f'
    obtain ⟨k2, q3, q4⟩ := Vm.findClass_spec e2
    cases q1.symm.trans q3
    exact absurd (q2.symm.trans q4) (by decide)
end OwnSafe
end Jvm.RoadKit
namespace Jvm.RoadKit
open Sem ClassFile Op Lib Jvm.Stand Jvm.Free Jvm.LawKit
section OwnKit3
variable {p : Program} {l : Launch} {e : Env} {R : Room} {s : State} {m : MethodId} {args : Array Value} {below : List Frame} {meth : Method} {c : Code} {T T' : State} {locs : List Loc} {cells slots : Nat} {Z : State} {h h' h2 : Heap} {a b : Addr} {sl : Nat} {v : Value}
theorem balA (X : Stand p l e R s m args below meth c T locs cells slots) (hx : p.tables.exec = Jvm.exec) (hZ : Z.Warmed39 s.vm) (eT : T.heap = h) {k : ClassId} {z : Int32} {vs : List Value} {dv : Value} (M : Arv Z h b k .byte z vs dv) {j : Int32} (hj : ¬ j < 0 ∧ j < z) {v : Value} (hv : vs.getD j.toNatClampNeg dv = v) {g : JFrame} (hg : g.method = m) {rest : List Value} (hs : g.stack = .int j :: .ref b :: rest) (hd : decode c.code g.pc = .ok (.baload, 1)) :
    ∀ target, Steps p.tables e below (T.setTop { g with pc := g.pc + 1, stack := v :: rest }) target → Steps p.tables e below (T.setTop g) target := by
  obtain ⟨cl, A, q1, S, q3, H, G⟩ := M
  exact fun t k => X.baloadBytes hx (j := j) (v := v) (by rw [eT]; exact A.1) (State.isArrayOf_alike hZ.alike A.2.1) A.2.2 (inb_of S hj) (H.at (inb_of S hj) hv) hg hs hd _ k
theorem calA (X : Stand p l e R s m args below meth c T locs cells slots) (hx : p.tables.exec = Jvm.exec) (hZ : Z.Warmed39 s.vm) (eT : T.heap = h) {k : ClassId} {z : Int32} {vs : List Value} {dv : Value} (M : Arv Z h b k .char z vs dv) {j : Int32} (hj : ¬ j < 0 ∧ j < z) {v : Value} (hv : vs.getD j.toNatClampNeg dv = v) {g : JFrame} (hg : g.method = m) {rest : List Value} (hs : g.stack = .int j :: .ref b :: rest) (hd : decode c.code g.pc = .ok (.caload, 1)) :
    ∀ target, Steps p.tables e below (T.setTop { g with pc := g.pc + 1, stack := v :: rest }) target → Steps p.tables e below (T.setTop g) target := by
  obtain ⟨cl, A, q1, S, q3, H, G⟩ := M
  exact fun t k => X.caload hx (j := j) (v := v) (by rw [eT]; exact A.1) (State.isArrayOf_alike hZ.alike A.2.1) A.2.2 (inb_of S hj) (H.at (inb_of S hj) hv) hg hs hd _ k
theorem ofN_neg {n : Nat} (h : n < 2 ^ 31) : ¬ Int32.ofNat n < 0 := Int32.ofNat_not_neg h
theorem ofN_lt {i n : Nat} (h : i < n) (hn : n < 2 ^ 31) : Int32.ofNat i < Int32.ofNat n := by
  rw [Int32.lt_iff_toInt_lt, Int32.toInt_ofNat_small (show i < 2 ^ 31 by omega), Int32.toInt_ofNat_small hn]; omega
theorem ofN_le {i n : Nat} (h : n ≤ i) (hi : i < 2 ^ 31) : ¬ Int32.ofNat i < Int32.ofNat n := by
  rw [Int32.lt_iff_toInt_lt, Int32.toInt_ofNat_small hi, Int32.toInt_ofNat_small (show n < 2 ^ 31 by omega)]; omega
theorem ofN_clamp {n : Nat} (h : n < 2 ^ 31) : (Int32.ofNat n).toNatClampNeg = n := by
  show (Int32.ofNat n).toInt.toNat = n
  rw [Int32.toInt_ofNat_small h]; rfl
end OwnKit3
end Jvm.RoadKit
namespace Jvm.RoadKit
open Sem ClassFile Op Lib Jvm.Stand Jvm.Free Jvm.LawKit
theorem eval_int {args : Array Value} {s : State} {t : Term} {z : Int32} (h : (Cond.eq t (.int z)).value args s none s [] = some true) : t.eval args s none [] s = some (.int z) := by
  obtain ⟨x, y, e1, e2, k1, k2⟩ := cmp_v (Or.inl h)
  cases (Term.int_eval z).symm.trans e2
  obtain ⟨x', rfl⟩ := k2
  rw [gotT (Cond.eq_ints e1 (Term.int_eval z)) h] at e1
  exact e1
end Jvm.RoadKit
/- laws to paste: Road.backV, Road.lenW, Road.chN, Road.empW, Road.codOf, StrChars.pair_says, StrChars.shr1, Road.wide_lo, Road.wide_hi, StrChars.narrow_ch (cut by pick.py; bodies as the Statement names them) -/
namespace Jvm.Pilot.@@N@@
namespace StrChars
open Jvm Sem ClassFile Op Lib Jvm.Stand Jvm.Free.XT Jvm.Free.ALB Jvm.Free.JM Jvm.Free
open Jvm.Lib.Cold (StaticIs)
/-- a char array whose places are chars -/
def Ch (a : Addr) (A : Cell) (U : State) : Prop := Arr .char a A U ∧ Typed .char A
theorem Ch.mv {a : Addr} {A : Cell} {U U' : State} (h : Ch a A U) (hal : U.vm.Alike U'.vm) (hh : U'.heap = U.heap) : Ch a A U' := ⟨h.1.mv hal hh, h.2⟩
theorem Ch.keep {a : Addr} {A : Cell} {U U' : State} (h : Ch a A U) (hal : U.vm.Alike U'.vm) (hk : U'.heap[a]? = some A) : Ch a A U' := ⟨h.1.keep hal hk, h.2⟩
/-- what place i of a char[]'s cell holds -/
def cv (A : Cell) (i : Nat) : Int32 := match A.slots[i]? with | some (.int x) => x | _ => 0
theorem Ch.get {a : Addr} {A : Cell} {U : State} (h : Ch a A U) {i : Nat} (hi : i < A.slots.size) : A.slots[i]? = some (.int (cv A i)) := by
  have e := Array.getElem?_eq_getElem hi
  have f := h.2 i _ e
  unfold cv; rw [e]
  generalize A.slots[i] = v at f
  cases v <;> simp [fits] at f ⊢
/-- the byte that i2b leaves of a char -/
def lo8 (x : Int32) : Int32 := x.toInt8.toInt32
theorem fits_lo8 (y : Int32) : fits .byte (.int (lo8 y)) = true := by
  have h1 := y.toInt8.le_toInt
  have h2 := y.toInt8.toInt_lt
  simp only [lo8, fits, Bool.and_eq_true, decide_eq_true_eq, Int32.le_iff_toInt_le, Int8.toInt_toInt32, show (-128 : Int32).toInt = -128 from by decide, show (127 : Int32).toInt = 127 from by decide]
  omega
/-- A' is A but that each place j of lo .. hi - 1 holds f j -/
def Laid (A A' : Cell) (lo hi : Nat) (f : Nat → Value) : Prop := A'.cls = A.cls ∧ A'.vm = A.vm ∧ A'.slots.size = A.slots.size ∧ ∀ i, A'.slots[i]? = if lo ≤ i ∧ i < hi then some (f i) else A.slots[i]?
theorem Laid.zero (A : Cell) (lo : Nat) (f : Nat → Value) : Laid A A lo (lo + 0) f := ⟨rfl, rfl, rfl, fun i => by rw [if_neg (by omega)]⟩
theorem Laid.step {A Ak : Cell} {lo k : Nat} {f : Nat → Value} {v : Value} (h : Laid A Ak lo k f) (hlo : lo ≤ k) (hk : k < Ak.slots.size) (hv : v = f k) : Laid A (Ak.setSlot k v) lo (k + 1) f := by
  refine ⟨h.1, h.2.1, by simpa [Cell.setSlot] using h.2.2.1, fun i => ?_⟩
  by_cases e : k = i
  · subst e; rw [Cell.slots_setSlot_self v hk, if_pos (by omega), hv]
  · rw [Cell.slots_setSlot_ne v e, h.2.2.2 i]
    by_cases q : lo ≤ i ∧ i < k
    · rw [if_pos q, if_pos (by omega)]
    · rw [if_neg q, if_neg (by omega)]
def U16 : String := "java/lang/StringUTF16"
namespace Cmp5
def yN : MethodName := ⟨"java/lang/StringUTF16", "compress", "([CI[BII)I"⟩
abbrev yB : ByteArray := jdk_52_method_21_code
theorem d0 : decode yB 0 = .ok (.iconst 0, 1) := by decide +kernel
theorem d1 : decode yB 1 = .ok (.istore 5, 2) := by decide +kernel
theorem d3 : decode yB 3 = .ok (.iload 5, 2) := by decide +kernel
theorem d5 : decode yB 5 = .ok (.iload 4, 2) := by decide +kernel
theorem d7 : decode yB 7 = .ok (.if_icmp (.ge) 37, 3) := by decide +kernel
theorem d10 : decode yB 10 = .ok (.aload_n 0, 1) := by decide +kernel
theorem d11 : decode yB 11 = .ok (.iload_n 1, 1) := by decide +kernel
theorem d12 : decode yB 12 = .ok (.caload, 1) := by decide +kernel
theorem d13 : decode yB 13 = .ok (.istore 6, 2) := by decide +kernel
theorem d15 : decode yB 15 = .ok (.iload 6, 2) := by decide +kernel
theorem d17 : decode yB 17 = .ok (.sipush 255, 3) := by decide +kernel
theorem d20 : decode yB 20 = .ok (.if_icmp (.le) 6, 3) := by decide +kernel
theorem d26 : decode yB 26 = .ok (.aload_n 2, 1) := by decide +kernel
theorem d27 : decode yB 27 = .ok (.iload_n 3, 1) := by decide +kernel
theorem d28 : decode yB 28 = .ok (.iload 6, 2) := by decide +kernel
theorem d30 : decode yB 30 = .ok (.i2b, 1) := by decide +kernel
theorem d31 : decode yB 31 = .ok (.bastore, 1) := by decide +kernel
theorem d32 : decode yB 32 = .ok (.iinc 1 1, 3) := by decide +kernel
theorem d35 : decode yB 35 = .ok (.iinc 3 1, 3) := by decide +kernel
theorem d38 : decode yB 38 = .ok (.iinc 5 1, 3) := by decide +kernel
theorem d41 : decode yB 41 = .ok (.goto (-38), 3) := by decide +kernel
theorem d44 : decode yB 44 = .ok (.iload 4, 2) := by decide +kernel
theorem d46 : decode yB 46 = .ok (.ireturn, 1) := by decide +kernel
def site : List Cond := []
def tab : Cond := tabOf yN yB 7 (some .int) site
def P (b : Addr) (A : Cell) (d : Addr) (B : Cell) (o q len : Nat) (args : Array Value) (s : State) : Prop := args = #[.ref b, .int (Int32.ofNat o), .ref d, .int (Int32.ofNat q), .int (Int32.ofNat len)] ∧ Ch b A s ∧ Arr .byte d B s ∧ b ≠ d ∧ o + len ≤ A.slots.size ∧ q + len ≤ B.slots.size ∧ ∀ i, i < len → ¬ 255 < cv A (o + i)
def E (b : Addr) (A : Cell) (d : Addr) (B : Cell) (o q len : Nat) (r : Option Value) (s u : State) : Prop := r = some (.int (Int32.ofNat len)) ∧ ∃ B', Put d B' s u ∧ Laid B B' q (q + len) (fun j => Value.int (lo8 (cv A (o + (j - q)))))
/-- no char of the range above 255: len; the places written hold each char's low byte -/
theorem law (l : Launch) (b : Addr) (A : Cell) (d : Addr) (B : Cell) (o q len : Nat) : Law l yN 5 5 0 0 yB 7 (some .int) site (P b A d B o q len) (E b A d B o q len) (copyLocs d q len) 0 0 := by
  refine Law.of_walk (plainFor_of_name (by decide +kernel)) (by decide +kernel) (by decide +kernel) (by decide) (fun _ _ h => by rw [h.1]; rfl) (fun _ U U' hal hh h => ⟨h.1, h.2.1.mv hal hh, h.2.2.1.mv hal hh, h.2.2.2⟩) (fun r U U' V V' h1 hal h2 h => ⟨h.1, h.2.elim fun B' q => ⟨B', q.1.mv h1 h2, q.2⟩⟩) ?_
  intro p e s m args below meth c s₁ X0 hexec hbytes hml hret hlk hnm hown hh0 W hP
  obtain ⟨rfl, hA, hB, hne, l1, l2, hp⟩ := hP
  have c1 : Steps p.tables e below (s₁.setTop (entryFrame m #[.ref b, .int (Int32.ofNat o), .ref d, .int (Int32.ofNat q), .int (Int32.ofNat len)] 7)) (s₁.setTop (mkF m 0 #[.val (.ref b), .val (.int (Int32.ofNat o)), .val (.ref d), .val (.int (Int32.ofNat q)), .val (.int (Int32.ofNat len)), .unset, .unset] [])) := entry rfl
  have hA0 := hA.1.mv X0.warmed.alike hh0
  have hB0 := hB.mv X0.warmed.alike hh0
  have a31 := hA.1.2.2.2
  have c2 : Steps p.tables e below (s₁.setTop (entryFrame m #[.ref b, .int (Int32.ofNat o), .ref d, .int (Int32.ofNat q), .int (Int32.ofNat len)] 7)) (s₁.setTop (mkF m 3 #[.val (.ref b), .val (.int (Int32.ofNat o)), .val (.ref d), .val (.int (Int32.ofNat q)), .val (.int (Int32.ofNat len)), .val (.int 0), .unset] [])) := c1.trans (by
    refine iconstV X0.here hexec rfl 0 (hb hbytes d0) (by decide) ?_
    refine XS.istore X0.here hexec rfl (hb hbytes d1) rfl rfl ?_
    exact Steps.refl _)
  have loop : ∀ (r i : Nat), i + r = len → ∀ (z : Slot), (z = .unset ∨ ∃ w, z = .val w ∧ w.category = 1) → ∀ (Tl : State) (Bk : Cell), Stand p l e { frames := 0, locals := 0, cells := 0, slots := 0 } s m #[.ref b, .int (Int32.ofNat o), .ref d, .int (Int32.ofNat q), .int (Int32.ofNat len)] below meth c Tl ([] ++ copyLocs d q i) 0 0 → Put d Bk s₁ Tl → Laid B Bk q (q + i) (fun j => Value.int (lo8 (cv A (o + (j - q))))) →
      Steps p.tables e below (s₁.setTop (entryFrame m #[.ref b, .int (Int32.ofNat o), .ref d, .int (Int32.ofNat q), .int (Int32.ofNat len)] 7)) (Tl.setTop (mkF m 3 #[.val (.ref b), .val (.int (Int32.ofNat (o + i))), .val (.ref d), .val (.int (Int32.ofNat (q + i))), .val (.int (Int32.ofNat len)), .val (.int (Int32.ofNat i)), z] [])) → ∃ (T' : State) (B' : Cell) (z' : Slot), Stand p l e { frames := 0, locals := 0, cells := 0, slots := 0 } s m #[.ref b, .int (Int32.ofNat o), .ref d, .int (Int32.ofNat q), .int (Int32.ofNat len)] below meth c T' ([] ++ copyLocs d q len) 0 0 ∧ Put d B' s₁ T' ∧ Laid B B' q (q + len) (fun j => Value.int (lo8 (cv A (o + (j - q))))) ∧
      Steps p.tables e below (s₁.setTop (entryFrame m #[.ref b, .int (Int32.ofNat o), .ref d, .int (Int32.ofNat q), .int (Int32.ofNat len)] 7)) (T'.setTop (mkF m 3 #[.val (.ref b), .val (.int (Int32.ofNat (o + len))), .val (.ref d), .val (.int (Int32.ofNat (q + len))), .val (.int (Int32.ofNat len)), .val (.int (Int32.ofNat len)), z'] [])) := by
    intro r
    induction r with
    | zero =>
      intro i hi z hz Tl Bk Xl pl fl cl
      have hil : i = len := by omega
      rw [hil] at Xl fl cl
      exact ⟨Tl, Bk, z, Xl, pl, fl, cl⟩
    | succ r ih =>
      intro i hi z hz Tl Bk Xl pl fl cl
      have all := X0.warmed.alike.symm.trans Xl.warmed.alike
      have hAl := hA0.keep all (pl.other hne hA0.1)
      have hBk := hB0.like all pl.1 fl.1 fl.2.1 fl.2.2.1
      have hlt : q + i < Bk.slots.size := by rw [fl.2.2.1]; omega
      have c3 : Steps p.tables e below (s₁.setTop (entryFrame m #[.ref b, .int (Int32.ofNat o), .ref d, .int (Int32.ofNat q), .int (Int32.ofNat len)] 7)) (Tl.setTop (mkF m 12 #[.val (.ref b), .val (.int (Int32.ofNat (o + i))), .val (.ref d), .val (.int (Int32.ofNat (q + i))), .val (.int (Int32.ofNat len)), .val (.int (Int32.ofNat i)), z] [.int (Int32.ofNat (o + i)), .ref b])) := cl.trans (by
        refine XS.iload Xl.here hexec rfl (hb hbytes d3) rfl ?_
        refine XS.iload Xl.here hexec rfl (hb hbytes d5) rfl ?_
        refine XS.icmpNo Xl.here hexec rfl (hb hbytes d7) rfl (ii_ge_f (lt32 (by omega) (by omega))) ?_
        refine XS.aloadN Xl.here hexec rfl (hb hbytes d10) rfl rfl ?_
        refine XS.iloadN Xl.here hexec rfl (hb hbytes d11) rfl ?_
        exact Steps.refl _)
      have c4 : Steps p.tables e below (s₁.setTop (entryFrame m #[.ref b, .int (Int32.ofNat o), .ref d, .int (Int32.ofNat q), .int (Int32.ofNat len)] 7)) (Tl.setTop (mkF m 13 #[.val (.ref b), .val (.int (Int32.ofNat (o + i))), .val (.ref d), .val (.int (Int32.ofNat (q + i))), .val (.int (Int32.ofNat len)), .val (.int (Int32.ofNat i)), z] [.int (cv A (o + i))])) := c3.trans (by
        refine Xl.aget hexec hAl rfl (hA.get (i := o + i) (by omega)) rfl rfl (hb hbytes d12) ?_
        exact Steps.refl _)
      have c5 : Steps p.tables e below (s₁.setTop (entryFrame m #[.ref b, .int (Int32.ofNat o), .ref d, .int (Int32.ofNat q), .int (Int32.ofNat len)] 7)) (Tl.setTop (mkF m 15 #[.val (.ref b), .val (.int (Int32.ofNat (o + i))), .val (.ref d), .val (.int (Int32.ofNat (q + i))), .val (.int (Int32.ofNat len)), .val (.int (Int32.ofNat i)), .val (.int (cv A (o + i)))] [])) := c4.trans (by
        refine XS.istoreS Xl.here hexec rfl (hb hbytes d13) rfl rfl hz ?_
        exact Steps.refl _)
      have c6 : Steps p.tables e below (s₁.setTop (entryFrame m #[.ref b, .int (Int32.ofNat o), .ref d, .int (Int32.ofNat q), .int (Int32.ofNat len)] 7)) (Tl.setTop (mkF m 31 #[.val (.ref b), .val (.int (Int32.ofNat (o + i))), .val (.ref d), .val (.int (Int32.ofNat (q + i))), .val (.int (Int32.ofNat len)), .val (.int (Int32.ofNat i)), .val (.int (cv A (o + i)))] [.int (lo8 (cv A (o + i))), .int (Int32.ofNat (q + i)), .ref d])) := c5.trans (by
        refine XS.iload Xl.here hexec rfl (hb hbytes d15) rfl ?_
        refine sipushV Xl.here hexec rfl 255 (hb hbytes d17) (by decide) ?_
        refine XS.icmpYes Xl.here hexec rfl (pc0 := 20) rfl (hb hbytes d20) rfl (ii_le_t (hp i (by omega))) (by decide) rfl ?_
        refine XS.aloadN Xl.here hexec rfl (hb hbytes d26) rfl rfl ?_
        refine XS.iloadN Xl.here hexec rfl (hb hbytes d27) rfl ?_
        refine XS.iload Xl.here hexec rfl (hb hbytes d28) rfl ?_
        refine i2b Xl.here hexec rfl (hb hbytes d30) rfl ?_
        exact Steps.refl _)
      obtain ⟨T7, X7, p7, st7⟩ := Xl.aput hexec hBk rfl hlt rfl (fits_lo8 (cv A (o + i))) (g := (mkF m 31 #[.val (.ref b), .val (.int (Int32.ofNat (o + i))), .val (.ref d), .val (.int (Int32.ofNat (q + i))), .val (.int (Int32.ofNat len)), .val (.int (Int32.ofNat i)), .val (.int (cv A (o + i)))] [.int (lo8 (cv A (o + i))), .int (Int32.ofNat (q + i)), .ref d])) rfl (rest := []) rfl (hb hbytes d31)
      have c8 : Steps p.tables e below (s₁.setTop (entryFrame m #[.ref b, .int (Int32.ofNat o), .ref d, .int (Int32.ofNat q), .int (Int32.ofNat len)] 7)) (T7.setTop (mkF m 32 #[.val (.ref b), .val (.int (Int32.ofNat (o + i))), .val (.ref d), .val (.int (Int32.ofNat (q + i))), .val (.int (Int32.ofNat len)), .val (.int (Int32.ofNat i)), .val (.int (cv A (o + i)))] [])) := c6.trans (st7 _ (Steps.refl _))
      have c9 : Steps p.tables e below (s₁.setTop (entryFrame m #[.ref b, .int (Int32.ofNat o), .ref d, .int (Int32.ofNat q), .int (Int32.ofNat len)] 7)) (T7.setTop (mkF m 3 #[.val (.ref b), .val (.int (Int32.ofNat (o + i) + 1)), .val (.ref d), .val (.int (Int32.ofNat (q + i) + 1)), .val (.int (Int32.ofNat len)), .val (.int (Int32.ofNat i + 1)), .val (.int (cv A (o + i)))] [])) := c8.trans (by
        refine iincV X7.here hexec rfl 1 (hb hbytes d32) (by decide) rfl rfl ?_
        refine iincV X7.here hexec rfl 1 (hb hbytes d35) (by decide) rfl rfl ?_
        refine iincV X7.here hexec rfl 1 (hb hbytes d38) (by decide) rfl rfl ?_
        refine XS.goto X7.here hexec rfl (pc0 := 41) rfl (hb hbytes d41) (by decide) rfl ?_
        exact Steps.refl _)
      have c10 : Steps p.tables e below (s₁.setTop (entryFrame m #[.ref b, .int (Int32.ofNat o), .ref d, .int (Int32.ofNat q), .int (Int32.ofNat len)] 7)) (T7.setTop (mkF m 3 #[.val (.ref b), .val (.int (Int32.ofNat (o + (i + 1)))), .val (.ref d), .val (.int (Int32.ofNat (q + (i + 1)))), .val (.int (Int32.ofNat len)), .val (.int (Int32.ofNat (i + 1))), .val (.int (cv A (o + i)))] [])) := by
        have := c9
        rw [succ32, succ32, succ32] at this
        exact this
      exact ih (i + 1) (by omega) _ (Or.inr ⟨_, rfl, rfl⟩) T7 _ (by rw [copyLocs_step, ← List.append_assoc]; exact X7) (pl.trans p7) (fl.step (by omega) hlt (by simp)) c10
  obtain ⟨T9, B9, z9, X9, p9, f9, g9⟩ := loop len 0 (by omega) .unset (Or.inl rfl) s₁ B (by simpa [copyLocs] using X0) ⟨hB0.1, fun _ _ => rfl, rfl⟩ (Laid.zero _ _ _) c2
  have c11 : Steps p.tables e below (s₁.setTop (entryFrame m #[.ref b, .int (Int32.ofNat o), .ref d, .int (Int32.ofNat q), .int (Int32.ofNat len)] 7)) (T9.setTop (mkF m 46 #[.val (.ref b), .val (.int (Int32.ofNat (o + len))), .val (.ref d), .val (.int (Int32.ofNat (q + len))), .val (.int (Int32.ofNat len)), .val (.int (Int32.ofNat len)), z9] [.int (Int32.ofNat len)])) := g9.trans (by
    refine XS.iload X9.here hexec rfl (hb hbytes d3) rfl ?_
    refine XS.iload X9.here hexec rfl (hb hbytes d5) rfl ?_
    refine XS.icmpYes X9.here hexec rfl (pc0 := 7) rfl (hb hbytes d7) rfl (ii_ge_t (nlt32 (by omega) (Nat.le_refl _))) (by decide) rfl ?_
    refine XS.iload X9.here hexec rfl (hb hbytes d44) rfl ?_
    exact Steps.refl _)
  exact ⟨T9, some (.int (Int32.ofNat len)), _, _, _, X9, by simp, rfl, rfl, (fun h => by cases h), ⟨rfl, B9, p9.from hh0, f9⟩, fun fs hl => c11.trans (X9.ireturnOut hexec hret rfl (Or.inl rfl) (hb hbytes d46) hl)⟩
end Cmp5
namespace Cmp3
def yN : MethodName := ⟨"java/lang/StringUTF16", "compress", "([CII)[B"⟩
abbrev yB : ByteArray := jdk_52_method_16_code
theorem d0 : decode yB 0 = .ok (.iload_n 2, 1) := by decide +kernel
theorem d1 : decode yB 1 = .ok (.newarray .byte, 2) := by decide +kernel
theorem d3 : decode yB 3 = .ok (.astore_n 3, 1) := by decide +kernel
theorem d4 : decode yB 4 = .ok (.aload_n 0, 1) := by decide +kernel
theorem d5 : decode yB 5 = .ok (.iload_n 1, 1) := by decide +kernel
theorem d6 : decode yB 6 = .ok (.aload_n 3, 1) := by decide +kernel
theorem d7 : decode yB 7 = .ok (.iconst 0, 1) := by decide +kernel
theorem d8 : decode yB 8 = .ok (.iload_n 2, 1) := by decide +kernel
theorem d9 : decode yB 9 = .ok (.invokestatic 115, 3) := by decide +kernel
theorem d12 : decode yB 12 = .ok (.istore 4, 2) := by decide +kernel
theorem d14 : decode yB 14 = .ok (.iload 4, 2) := by decide +kernel
theorem d16 : decode yB 16 = .ok (.iload_n 2, 1) := by decide +kernel
theorem d17 : decode yB 17 = .ok (.if_icmp (.eq) 40, 3) := by decide +kernel
theorem d57 : decode yB 57 = .ok (.aload_n 3, 1) := by decide +kernel
theorem d58 : decode yB 58 = .ok (.areturn, 1) := by decide +kernel
def site : List Cond := [.arrayClass .byte, Cmp5.tab] ++ staticW U16 115 Cmp5.yN
def tab : Cond := tabOf yN yB 6 (some (.array .byte)) site
def P (b : Addr) (A : Cell) (o len : Nat) (args : Array Value) (s : State) : Prop := args = #[.ref b, .int (Int32.ofNat o), .int (Int32.ofNat len)] ∧ Ch b A s ∧ o + len ≤ A.slots.size ∧ len ≤ 536870912 ∧ ∀ i, i < len → ¬ 255 < cv A (o + i)
def E (b : Addr) (A : Cell) (o len : Nat) (r : Option Value) (s u : State) : Prop := NewArr .byte "[B" len (fun j => .int (lo8 (cv A (o + j)))) r s u ∧ u.heap.size = s.heap.size + 1
/-- no char of the range above 255: a new byte[] of their low bytes -/
theorem law (l : Launch) (b : Addr) (A : Cell) (o len : Nat) : Law l yN 3 3 1 18 yB 6 (some (.array .byte)) site (P b A o len) (E b A o len) [] 1 len := by
  refine Law.of_walk (plainFor_of_name (by decide +kernel)) (by decide +kernel) (by decide +kernel) (by decide) (fun _ _ h => by rw [h.1]; rfl) (fun _ U U' hal hh h => ⟨h.1, h.2.1.mv hal hh, h.2.2⟩) (fun r U U' V V' h1 hal h2 h => ⟨NewArr.mv r U U' V V' h1 hal h2 h.1, by rw [h1, h2]; exact h.2⟩) ?_
  intro p e s m args below meth c s₁ X0 hexec hbytes hml hret hlk hnm hown hh0 W hP
  obtain ⟨rfl, hA, l1, l2, hp⟩ := hP
  have a31 := hA.1.2.2.2
  have c1 : Steps p.tables e below (s₁.setTop (entryFrame m #[.ref b, .int (Int32.ofNat o), .int (Int32.ofNat len)] 6)) (s₁.setTop (mkF m 0 #[.val (.ref b), .val (.int (Int32.ofNat o)), .val (.int (Int32.ofNat len)), .unset, .unset, .unset] [])) := entry rfl
  have c2 : Steps p.tables e below (s₁.setTop (entryFrame m #[.ref b, .int (Int32.ofNat o), .int (Int32.ofNat len)] 6)) (s₁.setTop (mkF m 1 #[.val (.ref b), .val (.int (Int32.ofNat o)), .val (.int (Int32.ofNat len)), .unset, .unset, .unset] [.int (Int32.ofNat len)])) := c1.trans (by
    refine XS.iloadN X0.here hexec rfl (hb hbytes d0) rfl ?_
    exact Steps.refl _)
  obtain ⟨T3, B3, X3, ba3, bs3, bv3, bh3, bf3, st3⟩ := X0.anew hexec (atype := .byte) (wk W (.arrayClass .byte)) rfl (by show len * 1 ≤ _; omega) (by omega) (g := (mkF m 1 #[.val (.ref b), .val (.int (Int32.ofNat o)), .val (.int (Int32.ofNat len)), .unset, .unset, .unset] [.int (Int32.ofNat len)])) rfl (hb hbytes d1) (rest := []) rfl (Nat.le_refl _) (by show 0 + len ≤ len; omega)
  rw [hh0] at ba3 st3
  have kp3 : XT.Kept s T3 := (XT.Kept.of_eq hh0).push bh3
  have hA3 := hA.keep X3.warmed.alike (kp3 _ _ hA.1.1)
  have hne : b ≠ s.heap.size := hA.1.ne
  have c4 : Steps p.tables e below (s₁.setTop (entryFrame m #[.ref b, .int (Int32.ofNat o), .int (Int32.ofNat len)] 6)) (T3.setTop (mkF m 3 #[.val (.ref b), .val (.int (Int32.ofNat o)), .val (.int (Int32.ofNat len)), .unset, .unset, .unset] [.ref s.heap.size])) := c2.trans (st3 _ (Steps.refl _))
  have c5 : Steps p.tables e below (s₁.setTop (entryFrame m #[.ref b, .int (Int32.ofNat o), .int (Int32.ofNat len)] 6)) (T3.setTop (mkF m 9 #[.val (.ref b), .val (.int (Int32.ofNat o)), .val (.int (Int32.ofNat len)), .val (.ref s.heap.size), .unset, .unset] [.int (Int32.ofNat len), .int 0, .ref s.heap.size, .int (Int32.ofNat o), .ref b])) := c4.trans (by
    refine XS.astoreN X3.here hexec rfl (hb hbytes d3) rfl rfl rfl ?_
    refine XS.aloadN X3.here hexec rfl (hb hbytes d4) rfl rfl ?_
    refine XS.iloadN X3.here hexec rfl (hb hbytes d5) rfl ?_
    refine XS.aloadN X3.here hexec rfl (hb hbytes d6) rfl rfl ?_
    refine iconstV X3.here hexec rfl 0 (hb hbytes d7) (by decide) ?_
    refine XS.iloadN X3.here hexec rfl (hb hbytes d8) rfl ?_
    exact Steps.refl _)
  obtain ⟨v6, T6, X6, E6, g6⟩ := X3.callS hexec (Cmp5.law l b A s.heap.size B3 o 0 len) hown (wks W (staticW U16 115 Cmp5.yN)) (wk W Cmp5.tab) (W := 0) (Nat.le_of_ble_eq_true rfl) (Nat.le_of_ble_eq_true rfl) (Nat.le_refl _) (by show 0 + len + 0 ≤ len; omega) (g := (mkF m 9 #[.val (.ref b), .val (.int (Int32.ofNat o)), .val (.int (Int32.ofNat len)), .val (.ref s.heap.size), .unset, .unset] [.int (Int32.ofNat len), .int (Int32.ofNat 0), .ref s.heap.size, .int (Int32.ofNat o), .ref b])) rfl (by rw [hml]; rfl) c5 (argsL := [.ref b, .int (Int32.ofNat o), .ref s.heap.size, .int (Int32.ofNat 0), .int (Int32.ofNat len)]) (rest := []) rfl rfl (by show 2 * 0 + 0 ≤ _; decide) (hb hbytes d9) (⟨rfl, hA3, ba3, hne, l1, by rw [bs3]; simp, hp⟩)
  obtain ⟨rfl, B6, p6, f6⟩ := E6
  have c7 : Steps p.tables e below (s₁.setTop (entryFrame m #[.ref b, .int (Int32.ofNat o), .int (Int32.ofNat len)] 6)) (T6.setTop (mkF m 12 #[.val (.ref b), .val (.int (Int32.ofNat o)), .val (.int (Int32.ofNat len)), .val (.ref s.heap.size), .unset, .unset] [.int (Int32.ofNat len)])) := g6
  have c8 : Steps p.tables e below (s₁.setTop (entryFrame m #[.ref b, .int (Int32.ofNat o), .int (Int32.ofNat len)] 6)) (T6.setTop (mkF m 58 #[.val (.ref b), .val (.int (Int32.ofNat o)), .val (.int (Int32.ofNat len)), .val (.ref s.heap.size), .val (.int (Int32.ofNat len)), .unset] [.ref s.heap.size])) := c7.trans (by
    refine XS.istore X6.here hexec rfl (hb hbytes d12) rfl rfl ?_
    refine XS.iload X6.here hexec rfl (hb hbytes d14) rfl ?_
    refine XS.iloadN X6.here hexec rfl (hb hbytes d16) rfl ?_
    refine XS.icmpYes X6.here hexec rfl (pc0 := 17) rfl (hb hbytes d17) rfl (ii_eq_t rfl) (by decide) rfl ?_
    refine XS.aloadN X6.here hexec rfl (hb hbytes d57) rfl rfl ?_
    exact Steps.refl _)
  have X8 := X6.wide (L' := []) (cells' := 1) (slots' := len) (fun x hx hlt => by
    simp only [List.nil_append, copyLocs, List.mem_map, List.mem_range] at hx
    obtain ⟨i, -, rfl⟩ := hx
    exact absurd hlt (Nat.lt_irrefl _)) (Nat.le_refl _) (by omega)
  exact ⟨T6, some (.ref s.heap.size), _, _, _, X8, rfl, rfl, rfl, (fun h => by cases h), ⟨⟨rfl, B6, ba3.like (X3.warmed.alike.symm.trans X6.warmed.alike) p6.1 f6.1 f6.2.1 f6.2.2.1, f6.2.1.trans bv3, by rw [X6.warmed.alike.findClass, f6.1]; exact bf3, by rw [f6.2.2.1, bs3]; simp, fun j hj => by rw [f6.2.2.2 j, if_pos (by omega)]; rfl, kp3.put p6 (Nat.le_refl _)⟩, by rw [p6.2.2, bh3, hh0]; simp⟩, fun fs hl => c8.trans (X8.areturnOut hexec rfl hret rfl (hb hbytes d58) hl)⟩
end Cmp3
namespace CodL
def yN : MethodName := ⟨"java/lang/StringUTF16", "coderFromArrayLen", "([BI)B"⟩
abbrev yB : ByteArray := jdk_52_method_15_code
theorem d0 : decode yB 0 = .ok (.iload_n 1, 1) := by decide +kernel
theorem d1 : decode yB 1 = .ok (.aload_n 0, 1) := by decide +kernel
theorem d2 : decode yB 2 = .ok (.arraylength, 1) := by decide +kernel
theorem d3 : decode yB 3 = .ok (.isub, 1) := by decide +kernel
theorem d4 : decode yB 4 = .ok (.bipush 31, 2) := by decide +kernel
theorem d6 : decode yB 6 = .ok (.iushr, 1) := by decide +kernel
theorem d7 : decode yB 7 = .ok (.i2b, 1) := by decide +kernel
theorem d8 : decode yB 8 = .ok (.ireturn, 1) := by decide +kernel
def site : List Cond := []
def tab : Cond := tabOf yN yB 2 (some .byte) site
def P (d : Addr) (B : Cell) (args : Array Value) (s : State) : Prop := args = #[.ref d, .int (Int32.ofNat B.slots.size)] ∧ Arr .byte d B s
def E (r : Option Value) (s u : State) : Prop := XT.PureE (some (.int 0)) r s u
/-- an array as long as the number of chars: LATIN1 -/
theorem law (l : Launch) (d : Addr) (B : Cell) : Law l yN 2 2 0 0 yB 2 (some .byte) site (P d B) E [] 0 0 := by
  refine Law.of_walk (plainFor_of_name (by decide +kernel)) (by decide +kernel) (by decide +kernel) (by decide) (fun _ _ h => by rw [h.1]; rfl) (fun _ U U' hal hh h => ⟨h.1, h.2.mv hal hh⟩) (fun r U U' V V' h1 hal h2 h => XT.PureE.mv r U U' V V' h1 hal h2 h) ?_
  intro p e s m args below meth c s₁ X0 hexec hbytes hml hret hlk hnm hown hh0 W hP
  obtain ⟨rfl, hB⟩ := hP
  have hB0 := hB.mv X0.warmed.alike hh0
  have c1 : Steps p.tables e below (s₁.setTop (entryFrame m #[.ref d, .int (Int32.ofNat B.slots.size)] 2)) (s₁.setTop (mkF m 0 #[.val (.ref d), .val (.int (Int32.ofNat B.slots.size))] [])) := entry rfl
  have c2 : Steps p.tables e below (s₁.setTop (entryFrame m #[.ref d, .int (Int32.ofNat B.slots.size)] 2)) (s₁.setTop (mkF m 2 #[.val (.ref d), .val (.int (Int32.ofNat B.slots.size))] [.ref d, .int (Int32.ofNat B.slots.size)])) := c1.trans (by
    refine XS.iloadN X0.here hexec rfl (hb hbytes d0) rfl ?_
    refine XS.aloadN X0.here hexec rfl (hb hbytes d1) rfl rfl ?_
    exact Steps.refl _)
  have c3 : Steps p.tables e below (s₁.setTop (entryFrame m #[.ref d, .int (Int32.ofNat B.slots.size)] 2)) (s₁.setTop (mkF m 8 #[.val (.ref d), .val (.int (Int32.ofNat B.slots.size))] [.int (lo8 (ushr (Int32.ofNat B.slots.size - Int32.ofNat B.slots.size) 31))])) := c2.trans (by
    refine X0.alen hexec hB0 rfl rfl (hb hbytes d2) ?_
    refine XS.isub X0.here hexec rfl (hb hbytes d3) rfl ?_
    refine bipushV X0.here hexec rfl 31 (hb hbytes d4) (by decide) ?_
    refine iushr X0.here hexec rfl (hb hbytes d6) rfl ?_
    refine i2b X0.here hexec rfl (hb hbytes d7) rfl ?_
    exact Steps.refl _)
  have e0 : lo8 (ushr (Int32.ofNat B.slots.size - Int32.ofNat B.slots.size) 31) = 0 := by rw [Int32.sub_self]; decide
  rw [e0] at c3
  exact ⟨s₁, some (.int 0), _, _, _, X0, rfl, rfl, rfl, (fun h => by cases h), ⟨rfl, hh0⟩, fun fs hl => c3.trans (X0.ireturnOut hexec hret rfl (Or.inr (Or.inr (Or.inl rfl))) (hb hbytes d8) hl)⟩
end CodL
/-- the String at a is Latin-1 over a new byte[] (the heap's one new cell): the low bytes of the len chars of A from o on; every cell but a is kept -/
def Got (a : Addr) (D : Cell) (fV fC : Field) (A : Cell) (o len : Nat) (r : Option Value) (s u : State) : Prop := r = none ∧ ∃ D' V : Cell, Blank "java/lang/String" a D' u ∧ Same D D' [fV.slot, fC.slot] ∧ D'.slots[fV.slot]? = some (.ref s.heap.size) ∧ D'.slots[fC.slot]? = some (.int 0) ∧ Arr .byte s.heap.size V u ∧ V.vm = .none ∧ u.vm.findClass "[B" = some V.cls ∧ V.slots.size = len ∧ (∀ j, j < len → V.slots[j]? = some (.int (lo8 (cv A (o + j))))) ∧ (∀ (y : Addr) (c : Cell), y ≠ a → s.heap[y]? = some c → u.heap[y]? = some c) ∧ u.heap.size = s.heap.size + 1
theorem Got.mv {a : Addr} {D A : Cell} {fV fC : Field} {o len : Nat} : ∀ r (U U' V V' : State), U'.heap = U.heap → V.vm.Alike V'.vm → V'.heap = V.heap → Got a D fV fC A o len r U V → Got a D fV fC A o len r U' V' :=
  fun r U U' V V' h1 hal h2 ⟨e0, D', X, a1, a2, a3, a4, a5, a6, a7, a8, a9, a10, a11⟩ => ⟨e0, D', X, a1.mv hal h2, a2, by rw [h1]; exact a3, a4, by rw [h1]; exact a5.mv hal h2, a6, by rw [hal.findClass]; exact a7, a8, a9, by rw [h1, h2]; exact a10, by rw [h1, h2]; exact a11⟩
namespace New4
def yN : MethodName := ⟨"java/lang/String", "<init>", "([CIILjava/lang/Void;)V"⟩
abbrev yB : ByteArray := jdk_42_method_149_code
theorem d0 : decode yB 0 = .ok (.aload_n 0, 1) := by decide +kernel
theorem d1 : decode yB 1 = .ok (.invokespecial 1, 3) := by decide +kernel
theorem d4 : decode yB 4 = .ok (.iload_n 3, 1) := by decide +kernel
theorem d5 : decode yB 5 = .ok (.ifCond (.ne) 22, 3) := by decide +kernel
theorem d27 : decode yB 27 = .ok (.getstatic 38, 3) := by decide +kernel
theorem d30 : decode yB 30 = .ok (.ifCond (.eq) 28, 3) := by decide +kernel
theorem d33 : decode yB 33 = .ok (.aload_n 1, 1) := by decide +kernel
theorem d34 : decode yB 34 = .ok (.iload_n 2, 1) := by decide +kernel
theorem d35 : decode yB 35 = .ok (.iload_n 3, 1) := by decide +kernel
theorem d36 : decode yB 36 = .ok (.invokestatic 177, 3) := by decide +kernel
theorem d39 : decode yB 39 = .ok (.astore 5, 2) := by decide +kernel
theorem d41 : decode yB 41 = .ok (.aload_n 0, 1) := by decide +kernel
theorem d42 : decode yB 42 = .ok (.aload 5, 2) := by decide +kernel
theorem d44 : decode yB 44 = .ok (.iload_n 3, 1) := by decide +kernel
theorem d45 : decode yB 45 = .ok (.invokestatic 47, 3) := by decide +kernel
theorem d48 : decode yB 48 = .ok (.putfield 15, 3) := by decide +kernel
theorem d51 : decode yB 51 = .ok (.aload_n 0, 1) := by decide +kernel
theorem d52 : decode yB 52 = .ok (.aload 5, 2) := by decide +kernel
theorem d54 : decode yB 54 = .ok (.putfield 9, 3) := by decide +kernel
theorem d57 : decode yB 57 = .ok (.return_, 1) := by decide +kernel
def site : List Cond := [.fieldLink "java/lang/String" 38 "java/lang/String" "COMPACT_STRINGS" "Z", Cmp3.tab, CodL.tab, .laysFinal "java/lang/String" "java/lang/String" "value" "[B", .fieldLink "java/lang/String" 9 "java/lang/String" "value" "[B", .laysFinal "java/lang/String" "java/lang/String" "coder" "B", .fieldLink "java/lang/String" 15 "java/lang/String" "coder" "B"] ++ objW "java/lang/String" 1 ++ staticW "java/lang/String" 177 Cmp3.yN ++ staticW "java/lang/String" 47 CodL.yN
def tab : Cond := tabOf yN yB 6 none site
def P (a : Addr) (D : Cell) (fV fC : Field) (b : Addr) (A : Cell) (z : Int32) (o len : Nat) (args : Array Value) (s : State) : Prop := args = #[.ref a, .ref b, .int (Int32.ofNat o), .int (Int32.ofNat len), .null] ∧ Blank "java/lang/String" a D s ∧ Found "java/lang/String" "value" "[B" fV s ∧ Found "java/lang/String" "coder" "B" fC s ∧ Ch b A s ∧ StaticIs s "java/lang/String" "COMPACT_STRINGS" "Z" (.int z) ∧ ¬ z = 0 ∧ 0 < len ∧ o + len ≤ A.slots.size ∧ len ≤ 536870912 ∧ ∀ i, i < len → ¬ 255 < cv A (o + i)
def E (a : Addr) (D : Cell) (fV fC : Field) (A : Cell) (o len : Nat) (r : Option Value) (s u : State) : Prop := Got a D fV fC A o len r s u
/-- len > 0, no char of the range above 255: a Latin-1 String of their low bytes -/
theorem law (l : Launch) (a : Addr) (D : Cell) (fV fC : Field) (b : Addr) (A : Cell) (z : Int32) (o len : Nat) : Law l yN 5 4 2 35 yB 6 none site (P a D fV fC b A z o len) (E a D fV fC A o len) [⟨a, fC.slot⟩, ⟨a, fV.slot⟩] 1 len := by
  refine Law.of_walk (plainFor_of_name (by decide +kernel)) (by decide +kernel) (by decide +kernel) (by decide) (fun _ _ h => by rw [h.1]; rfl) (fun _ U U' hal hh h => ⟨h.1, h.2.1.mv hal hh, h.2.2.1.al hal, h.2.2.2.1.al hal, h.2.2.2.2.1.mv hal hh, h.2.2.2.2.2.1.there hal hh, h.2.2.2.2.2.2⟩) (fun r U U' V V' h1 hal h2 h => Got.mv r U U' V V' h1 hal h2 h) ?_
  intro p e s m args below meth c s₁ X0 hexec hbytes hml hret hlk hnm hown hh0 W hP
  obtain ⟨rfl, hB, f1, f2, hA, s1, hz, l0, l1, l2, hp⟩ := hP
  have a31 := hA.1.2.2.2
  have c1 : Steps p.tables e below (s₁.setTop (entryFrame m #[.ref a, .ref b, .int (Int32.ofNat o), .int (Int32.ofNat len), .null] 6)) (s₁.setTop (mkF m 0 #[.val (.ref a), .val (.ref b), .val (.int (Int32.ofNat o)), .val (.int (Int32.ofNat len)), .val .null, .unset] [])) := entry rfl
  have c2 : Steps p.tables e below (s₁.setTop (entryFrame m #[.ref a, .ref b, .int (Int32.ofNat o), .int (Int32.ofNat len), .null] 6)) (s₁.setTop (mkF m 1 #[.val (.ref a), .val (.ref b), .val (.int (Int32.ofNat o)), .val (.int (Int32.ofNat len)), .val .null, .unset] [.ref a])) := c1.trans (by
    refine XS.aloadN X0.here hexec rfl (hb hbytes d0) rfl rfl ?_
    exact Steps.refl _)
  obtain ⟨T3, X3, q3, st3⟩ := X0.oinit hexec hown (wks W (objW "java/lang/String" 1)) (g := (mkF m 1 #[.val (.ref a), .val (.ref b), .val (.int (Int32.ofNat o)), .val (.int (Int32.ofNat len)), .val .null, .unset] [.ref a])) rfl (by rw [hml]; rfl) (rest := []) rfl (hb hbytes d1) (W := 0) (by show 2 * 0 + 0 ≤ _; decide) (Nat.le_of_ble_eq_true rfl) (Nat.le_of_ble_eq_true rfl)
  have hh3 := q3.trans hh0
  have c4 : Steps p.tables e below (s₁.setTop (entryFrame m #[.ref a, .ref b, .int (Int32.ofNat o), .int (Int32.ofNat len), .null] 6)) (T3.setTop (mkF m 27 #[.val (.ref a), .val (.ref b), .val (.int (Int32.ofNat o)), .val (.int (Int32.ofNat len)), .val .null, .unset] [])) := (c2.trans (st3 _ (Steps.refl _))).trans (by
    refine XS.iloadN X3.here hexec rfl (hb hbytes d4) rfl ?_
    refine XS.ifYes X3.here hexec rfl (pc0 := 5) rfl (hb hbytes d5) rfl (i0_ne_t (nz32 (by omega) l0)) (by decide) rfl ?_
    exact Steps.refl _)
  obtain ⟨T5, X5, q5, st5⟩ := X3.sget hexec hown (wk W (.fieldLink "java/lang/String" 38 "java/lang/String" "COMPACT_STRINGS" "Z")) s1 (fun _ _ h => by rw [hh3]; exact h) (g := (mkF m 27 #[.val (.ref a), .val (.ref b), .val (.int (Int32.ofNat o)), .val (.int (Int32.ofNat len)), .val .null, .unset] [])) rfl (hb hbytes d27)
  have hh5 := q5.trans hh3
  have c6 : Steps p.tables e below (s₁.setTop (entryFrame m #[.ref a, .ref b, .int (Int32.ofNat o), .int (Int32.ofNat len), .null] 6)) (T5.setTop (mkF m 30 #[.val (.ref a), .val (.ref b), .val (.int (Int32.ofNat o)), .val (.int (Int32.ofNat len)), .val .null, .unset] [.int z])) := c4.trans (st5 _ (Steps.refl _))
  have c7 : Steps p.tables e below (s₁.setTop (entryFrame m #[.ref a, .ref b, .int (Int32.ofNat o), .int (Int32.ofNat len), .null] 6)) (T5.setTop (mkF m 36 #[.val (.ref a), .val (.ref b), .val (.int (Int32.ofNat o)), .val (.int (Int32.ofNat len)), .val .null, .unset] [.int (Int32.ofNat len), .int (Int32.ofNat o), .ref b])) := c6.trans (by
    refine XS.ifNo X5.here hexec rfl (hb hbytes d30) rfl (i0_eq_f hz) ?_
    refine XS.aloadN X5.here hexec rfl (hb hbytes d33) rfl rfl ?_
    refine XS.iloadN X5.here hexec rfl (hb hbytes d34) rfl ?_
    refine XS.iloadN X5.here hexec rfl (hb hbytes d35) rfl ?_
    exact Steps.refl _)
  obtain ⟨v8, T8, X8, E8, g8⟩ := X5.callS hexec (Cmp3.law l b A o len) hown (wks W (staticW "java/lang/String" 177 Cmp3.yN)) (wk W Cmp3.tab) (W := 0) (Nat.le_of_ble_eq_true rfl) (Nat.le_of_ble_eq_true rfl) (Nat.le_refl _) (by show 0 + len ≤ len; omega) (g := (mkF m 36 #[.val (.ref a), .val (.ref b), .val (.int (Int32.ofNat o)), .val (.int (Int32.ofNat len)), .val .null, .unset] [.int (Int32.ofNat len), .int (Int32.ofNat o), .ref b])) rfl (by rw [hml]; rfl) c7 (argsL := [.ref b, .int (Int32.ofNat o), .int (Int32.ofNat len)]) (rest := []) rfl rfl (by show 2 * 0 + 0 ≤ _; decide) (hb hbytes d36) (⟨rfl, hA.mv X5.warmed.alike hh5, l1, l2, hp⟩)
  obtain ⟨e8, z8⟩ := E8
  obtain ⟨rfl, N, n1, n2, n3, n4, n5, n6⟩ := NewArr.mv _ T5 s _ _ hh5.symm (Vm.Alike.refl _) rfl e8
  rw [hh5] at z8
  have hB1 := hB.keep X8.warmed.alike (n6 _ _ hB.1)
  have hne : s.heap.size ≠ a := (Nat.ne_of_lt (Array.getElem?_eq_some_iff.mp hB.1).1).symm
  have c9 : Steps p.tables e below (s₁.setTop (entryFrame m #[.ref a, .ref b, .int (Int32.ofNat o), .int (Int32.ofNat len), .null] 6)) (T8.setTop (mkF m 39 #[.val (.ref a), .val (.ref b), .val (.int (Int32.ofNat o)), .val (.int (Int32.ofNat len)), .val .null, .unset] [.ref s.heap.size])) := g8
  have c10 : Steps p.tables e below (s₁.setTop (entryFrame m #[.ref a, .ref b, .int (Int32.ofNat o), .int (Int32.ofNat len), .null] 6)) (T8.setTop (mkF m 45 #[.val (.ref a), .val (.ref b), .val (.int (Int32.ofNat o)), .val (.int (Int32.ofNat len)), .val .null, .val (.ref s.heap.size)] [.int (Int32.ofNat N.slots.size), .ref s.heap.size, .ref a])) := by
    have hc : Steps p.tables e below (s₁.setTop (entryFrame m #[.ref a, .ref b, .int (Int32.ofNat o), .int (Int32.ofNat len), .null] 6)) (T8.setTop (mkF m 45 #[.val (.ref a), .val (.ref b), .val (.int (Int32.ofNat o)), .val (.int (Int32.ofNat len)), .val .null, .val (.ref s.heap.size)] [.int (Int32.ofNat len), .ref s.heap.size, .ref a])) := c9.trans (by
      refine XS.astore X8.here hexec rfl (hb hbytes d39) rfl rfl rfl ?_
      refine XS.aloadN X8.here hexec rfl (hb hbytes d41) rfl rfl ?_
      refine XS.aload X8.here hexec rfl (hb hbytes d42) rfl rfl ?_
      refine XS.iloadN X8.here hexec rfl (hb hbytes d44) rfl ?_
      exact Steps.refl _)
    rw [n4]; exact hc
  obtain ⟨v11, T11, X11, E11, g11⟩ := X8.callS hexec (CodL.law l s.heap.size N) hown (wks W (staticW "java/lang/String" 47 CodL.yN)) (wk W CodL.tab) (W := 1) (Nat.le_of_ble_eq_true rfl) (Nat.le_of_ble_eq_true rfl) (Nat.le_refl _) (by show 0 + len + 0 ≤ len; omega) (g := (mkF m 45 #[.val (.ref a), .val (.ref b), .val (.int (Int32.ofNat o)), .val (.int (Int32.ofNat len)), .val .null, .val (.ref s.heap.size)] [.int (Int32.ofNat N.slots.size), .ref s.heap.size, .ref a])) rfl (by rw [hml]; rfl) c10 (argsL := [.ref s.heap.size, .int (Int32.ofNat N.slots.size)]) (rest := [.ref a]) rfl rfl (by show 2 * 0 + (1 + 0) ≤ _; decide) (hb hbytes d45) (⟨rfl, n1⟩)
  obtain ⟨rfl, q11⟩ := E11
  have hB11 := hB1.mv (X8.warmed.alike.symm.trans X11.warmed.alike) q11
  have c12 : Steps p.tables e below (s₁.setTop (entryFrame m #[.ref a, .ref b, .int (Int32.ofNat o), .int (Int32.ofNat len), .null] 6)) (T11.setTop (mkF m 48 #[.val (.ref a), .val (.ref b), .val (.int (Int32.ofNat o)), .val (.int (Int32.ofNat len)), .val .null, .val (.ref s.heap.size)] [.int 0, .ref a])) := g11
  obtain ⟨T13, X13, p13, bl13, sl13, st13⟩ := X11.finit hexec hown (wk W (.fieldLink "java/lang/String" 15 "java/lang/String" "coder" "B")) (Or.inr ⟨_, (wk W (.laysFinal "java/lang/String" "java/lang/String" "coder" "B"))⟩) (Or.inl ⟨rfl, hnm⟩) f2 (Or.inl rfl) hB11 (t := .byte) (by decide +kernel) rfl (g := (mkF m 48 #[.val (.ref a), .val (.ref b), .val (.int (Int32.ofNat o)), .val (.int (Int32.ofNat len)), .val .null, .val (.ref s.heap.size)] [.int 0, .ref a])) rfl (rest := []) rfl (hb hbytes d48)
  have c14 : Steps p.tables e below (s₁.setTop (entryFrame m #[.ref a, .ref b, .int (Int32.ofNat o), .int (Int32.ofNat len), .null] 6)) (T13.setTop (mkF m 54 #[.val (.ref a), .val (.ref b), .val (.int (Int32.ofNat o)), .val (.int (Int32.ofNat len)), .val .null, .val (.ref s.heap.size)] [.ref s.heap.size, .ref a])) := (c12.trans (st13 _ (Steps.refl _))).trans (by
    refine XS.aloadN X13.here hexec rfl (hb hbytes d51) rfl rfl ?_
    refine XS.aload X13.here hexec rfl (hb hbytes d52) rfl rfl ?_
    exact Steps.refl _)
  obtain ⟨T15, X15, p15, bl15, sl15, st15⟩ := X13.finit hexec hown (wk W (.fieldLink "java/lang/String" 9 "java/lang/String" "value" "[B")) (Or.inr ⟨_, (wk W (.laysFinal "java/lang/String" "java/lang/String" "value" "[B"))⟩) (Or.inl ⟨rfl, hnm⟩) f1 (Or.inl rfl) bl13 (t := (.array .byte)) (by decide +kernel) rfl (g := (mkF m 54 #[.val (.ref a), .val (.ref b), .val (.int (Int32.ofNat o)), .val (.int (Int32.ofNat len)), .val .null, .val (.ref s.heap.size)] [.ref s.heap.size, .ref a])) rfl (rest := []) rfl (hb hbytes d54)
  have c16 : Steps p.tables e below (s₁.setTop (entryFrame m #[.ref a, .ref b, .int (Int32.ofNat o), .int (Int32.ofNat len), .null] 6)) (T15.setTop (mkF m 57 #[.val (.ref a), .val (.ref b), .val (.int (Int32.ofNat o)), .val (.int (Int32.ofNat len)), .val .null, .val (.ref s.heap.size)] [])) := c14.trans (st15 _ (Steps.refl _))
  have ap := apart (Or.inr ⟨_, (wk W (.laysFinal "java/lang/String" "java/lang/String" "value" "[B"))⟩) (Or.inr ⟨_, (wk W (.laysFinal "java/lang/String" "java/lang/String" "coder" "B"))⟩) f1 f2 (t₁ := .array .byte) (t₂ := .byte) (by decide +kernel) (by decide +kernel) (by decide)
  have al := X8.warmed.alike.symm.trans X15.warmed.alike
  have n7 : T11.heap[s.heap.size]? = some N := by rw [q11]; exact n1.1
  exact ⟨T15, none, _, _, _, X15, by simp, rfl, by omega, (fun _ => rfl), ⟨rfl, _, N, bl15, ((Same.refl D _).set _ (by simp)).set _ (by simp), sl15, (Cell.slots_setSlot_ne _ ap).trans sl13, n1.keep al (p15.other hne (p13.other hne n7)), n2, by rw [al.findClass]; exact n3, n4, n5, fun y c h1 h2 => p15.other h1 (p13.other h1 (by rw [q11]; exact n6 y c h2)), by rw [p15.2.2, p13.2.2, q11]; exact z8⟩, fun fs hl => c16.trans (X15.returnOut hexec hret (hb hbytes d57) hl)⟩
end New4
namespace New1
def yN : MethodName := ⟨"java/lang/String", "<init>", "([C)V"⟩
abbrev yB : ByteArray := jdk_42_method_3_code
theorem d0 : decode yB 0 = .ok (.aload_n 0, 1) := by decide +kernel
theorem d1 : decode yB 1 = .ok (.aload_n 1, 1) := by decide +kernel
theorem d2 : decode yB 2 = .ok (.iconst 0, 1) := by decide +kernel
theorem d3 : decode yB 3 = .ok (.aload_n 1, 1) := by decide +kernel
theorem d4 : decode yB 4 = .ok (.arraylength, 1) := by decide +kernel
theorem d5 : decode yB 5 = .ok (.aconst_null, 1) := by decide +kernel
theorem d6 : decode yB 6 = .ok (.invokespecial 27, 3) := by decide +kernel
theorem d9 : decode yB 9 = .ok (.return_, 1) := by decide +kernel
def site : List Cond := [New4.tab] ++ initW "java/lang/String" 27 New4.yN
def tab : Cond := tabOf yN yB 2 none site
def P (a : Addr) (D : Cell) (fV fC : Field) (b : Addr) (A : Cell) (z : Int32) (args : Array Value) (s : State) : Prop := args = #[.ref a, .ref b] ∧ Blank "java/lang/String" a D s ∧ Found "java/lang/String" "value" "[B" fV s ∧ Found "java/lang/String" "coder" "B" fC s ∧ Ch b A s ∧ StaticIs s "java/lang/String" "COMPACT_STRINGS" "Z" (.int z) ∧ ¬ z = 0 ∧ 0 < A.slots.size ∧ A.slots.size ≤ 536870912 ∧ ∀ i, i < A.slots.size → ¬ 255 < cv A i
def E (a : Addr) (D : Cell) (fV fC : Field) (A : Cell) (r : Option Value) (s u : State) : Prop := Got a D fV fC A 0 A.slots.size r s u
/-- new String(chars), not empty, no char above 255: a Latin-1 String of their low bytes -/
theorem law (l : Launch) (a : Addr) (D : Cell) (fV fC : Field) (b : Addr) (A : Cell) (z : Int32) : Law l yN 2 1 3 52 yB 2 none site (P a D fV fC b A z) (E a D fV fC A) [⟨a, fC.slot⟩, ⟨a, fV.slot⟩] 1 A.slots.size := by
  refine Law.of_walk (plainFor_of_name (by decide +kernel)) (by decide +kernel) (by decide +kernel) (by decide) (fun _ _ h => by rw [h.1]; rfl) (fun _ U U' hal hh h => ⟨h.1, h.2.1.mv hal hh, h.2.2.1.al hal, h.2.2.2.1.al hal, h.2.2.2.2.1.mv hal hh, h.2.2.2.2.2.1.there hal hh, h.2.2.2.2.2.2⟩) (fun r U U' V V' h1 hal h2 h => Got.mv r U U' V V' h1 hal h2 h) ?_
  intro p e s m args below meth c s₁ X0 hexec hbytes hml hret hlk hnm hown hh0 W hP
  obtain ⟨rfl, hB, f1, f2, hA, s1, hz, l0, l2, hp⟩ := hP
  have c1 : Steps p.tables e below (s₁.setTop (entryFrame m #[.ref a, .ref b] 2)) (s₁.setTop (mkF m 0 #[.val (.ref a), .val (.ref b)] [])) := entry rfl
  have c2 : Steps p.tables e below (s₁.setTop (entryFrame m #[.ref a, .ref b] 2)) (s₁.setTop (mkF m 6 #[.val (.ref a), .val (.ref b)] [.null, .int (Int32.ofNat A.slots.size), .int 0, .ref b, .ref a])) := c1.trans (by
    refine XS.aloadN X0.here hexec rfl (hb hbytes d0) rfl rfl ?_
    refine XS.aloadN X0.here hexec rfl (hb hbytes d1) rfl rfl ?_
    refine iconstV X0.here hexec rfl 0 (hb hbytes d2) (by decide) ?_
    refine XS.aloadN X0.here hexec rfl (hb hbytes d3) rfl rfl ?_
    refine X0.alen hexec (hA.1.mv X0.warmed.alike hh0) rfl rfl (hb hbytes d4) ?_
    refine XS.aconstNull X0.here hexec rfl (hb hbytes d5) ?_
    exact Steps.refl _)
  obtain ⟨v3, T3, X3, E3, g3⟩ := X0.callN hexec (New4.law l a D fV fC b A z 0 A.slots.size) rfl hown (wks W (initW "java/lang/String" 27 New4.yN)) (W New4.tab (by simp only [site, List.mem_cons, List.mem_append, true_or, or_true])) (W := 0) (Nat.le_of_ble_eq_true rfl) (Nat.le_of_ble_eq_true rfl) (Nat.le_refl _) (by show 0 + A.slots.size ≤ A.slots.size; omega) (g := (mkF m 6 #[.val (.ref a), .val (.ref b)] [.null, .int (Int32.ofNat A.slots.size), .int (Int32.ofNat 0), .ref b, .ref a])) rfl (by rw [hml]; rfl) c2 (argsL := [.ref b, .int (Int32.ofNat 0), .int (Int32.ofNat A.slots.size), .null]) (rest := []) rfl rfl (by show 2 * 0 + 0 ≤ _; decide) (hb hbytes d6) (⟨rfl, hB.mv X0.warmed.alike hh0, f1.al X0.warmed.alike, f2.al X0.warmed.alike, hA.mv X0.warmed.alike hh0, s1.there X0.warmed.alike hh0, hz, l0, by omega, l2, fun i hi => by rw [Nat.zero_add]; exact hp i hi⟩)
  have e0 := Got.mv _ s₁ s _ _ hh0.symm (Vm.Alike.refl _) rfl E3
  obtain rfl := e0.1
  have c4 : Steps p.tables e below (s₁.setTop (entryFrame m #[.ref a, .ref b] 2)) (T3.setTop (mkF m 9 #[.val (.ref a), .val (.ref b)] [])) := g3
  exact ⟨T3, none, _, _, _, X3, by simp, rfl, by omega, (fun _ => rfl), e0, fun fs hl => c4.trans (X3.returnOut hexec hret (hb hbytes d9) hl)⟩
theorem pays {l : Launch} {R : Room} {p : Program} {e : Env} {below : List Frame} {s : State} {sargs : Array Value} {len W : Nat} (a : Addr) (D : Cell) (fV fC : Field) (b : Addr) (A : Cell) (z : Int32) (htab : tab.before sargs s = true) (hfr : 4 ≤ R.frames) (hlo : W + 65 ≤ R.locals) :
    Back l R p e below s sargs yN len W (fun A₁ a₁ => A₁.cells + 1 ≤ R.cells ∧ A₁.slots + A.slots.size ≤ R.slots ∧ P a D fV fC b A z a₁ A₁.U) (fun A₁ _ v₁ B₁ => E a D fV fC A v₁ A₁.U B₁.U ∧ B₁.locs = A₁.locs ++ [⟨a, fC.slot⟩, ⟨a, fV.slot⟩] ∧ B₁.cells = A₁.cells + 1 ∧ B₁.slots = A₁.slots + A.slots.size) :=
  (law l a D fV fC b A z).pays htab hfr (by omega)
end New1
/-- the byte, read back as charAt reads it, is the char -/
theorem lo8_mask {x : Int32} (h0 : ¬ x < 0) (h1 : ¬ 255 < x) : lo8 x &&& 255 = x := by
  have t : ∀ k : Fin 256, lo8 (Int32.ofNat k.val) &&& 255 = Int32.ofNat k.val := by decide +kernel
  rw [Int32.lt_iff_toInt_lt] at h0 h1
  have e0 : (0 : Int32).toInt = 0 := rfl
  have e1 : (255 : Int32).toInt = 255 := rfl
  obtain ⟨k, hk⟩ : ∃ k : Nat, x.toInt = k := ⟨x.toInt.toNat, by omega⟩
  have hx : x = Int32.ofNat k := Int32.toInt_inj.mp (by rw [hk, Int32.toInt_ofNat_small (by omega)])
  rw [hx]
  exact t ⟨k, by omega⟩
end StrChars
namespace StrChars.Road
open Jvm Sem ClassFile Op Lib Jvm.Stand Jvm.Free Jvm.Free.XT
open Jvm.Lib.Cold (StaticIs)
abbrev ST : String := "java/lang/String"
/-- every table word that New1's law asks, flat -/
abbrev words : List Jvm.Cond := [.code New1.yN New1.yB 2 none, .initialized ST, .methodLink ST 27 New4.yN, .instanceMethod New4.yN,
  .code New4.yN New4.yB 6 none, .fieldLink ST 38 ST "COMPACT_STRINGS" "Z", .laysFinal ST ST "value" "[B", .fieldLink ST 9 ST "value" "[B", .laysFinal ST ST "coder" "B", .fieldLink ST 15 ST "coder" "B",
  .methodLink ST 1 Lib.objectInit, .instanceMethod Lib.objectInit, .code Lib.objectInit ⟨#[0xb1]⟩ 1 none, .methodLink ST 177 Cmp3.yN, .static Cmp3.yN, .methodLink ST 47 CodL.yN, .static CodL.yN,
  .code Cmp3.yN Cmp3.yB 6 (some (.array .byte)), .initialized U16, .arrayClass .byte, .methodLink U16 115 Cmp5.yN, .static Cmp5.yN, .code Cmp5.yN Cmp5.yB 7 (some .int), .code CodL.yN CodL.yB 2 (some .byte)]
theorem tab_of {a : Array Value} {s : State} (h : ∀ w ∈ words, w.before a s = true) : New1.tab.before a s = true := by
  have h5 : Cmp5.tab.before a s = true := unparts (wk h (.code Cmp5.yN Cmp5.yB 7 (some .int))) (wks h (.initialized Cmp5.yN.cls :: Cmp5.site))
  have hc : CodL.tab.before a s = true := unparts (wk h (.code CodL.yN CodL.yB 2 (some .byte))) (wks h (.initialized CodL.yN.cls :: CodL.site))
  have q5 : ∀ w ∈ Cmp5.tab :: words, w.before a s = true := fun w hw => (List.mem_cons.mp hw).elim (fun e => e ▸ h5) (h w)
  have h3 : Cmp3.tab.before a s = true := unparts (wk q5 (.code Cmp3.yN Cmp3.yB 6 (some (.array .byte)))) (wks q5 (.initialized Cmp3.yN.cls :: Cmp3.site))
  have q3 : ∀ w ∈ Cmp3.tab :: CodL.tab :: words, w.before a s = true := fun w hw => (List.mem_cons.mp hw).elim (fun e => e ▸ h3) fun hw => (List.mem_cons.mp hw).elim (fun e => e ▸ hc) (h w)
  have h4 : New4.tab.before a s = true := unparts (wk q3 (.code New4.yN New4.yB 6 none)) (wks q3 (.initialized New4.yN.cls :: New4.site))
  have q4 : ∀ w ∈ New4.tab :: words, w.before a s = true := fun w hw => (List.mem_cons.mp hw).elim (fun e => e ▸ h4) (h w)
  exact unparts (wk q4 (.code New1.yN New1.yB 2 none)) (wks q4 (.initialized New1.yN.cls :: New1.site))
/-- the words ride from the start Z to the walk's own state -/
theorem moved {Z s : State} {a0 args : Array Value} (hZ : Z.Warmed39 s.vm) (hw : ∀ d ∈ words, d.before a0 Z = true) : ∀ d ∈ words, d.before args s = true := fun d hd => by
  have q := hw d hd
  have t : ∀ d ∈ words, d = .arrayClass .byte ∨ (d.onTables && d.keepsFace) = true := by decide +kernel
  rcases t d hd with rfl | t
  · exact RoadKit.mvA hZ q
  · exact RoadKit.mv hZ q t
/-- WHAT COMES BACK, over the tables of the start Z: h the heap at the call, h' behind it -/
def Q (Z : State) (x : Addr) (A : Cell) (h : Heap) (v : Option Value) (h' : Heap) (L : List Loc) : Prop := v = none ∧ (∀ y ∈ L, y.base = x) ∧ RoadKit.Keep h h' [x] ∧ h'.size = h.size + 1 ∧ RoadKit.Exa Z h' x ST ∧ RoadKit.Fld Z h' x ST "value" "[B" (.ref h.size) ∧ RoadKit.Fld Z h' x ST "coder" "B" (.int 0) ∧
  (∃ V : Cell, RoadKit.Arr Z h' h.size V .byte ∧ V.vm = .none ∧ Z.vm.findClass "[B" = some V.cls ∧ V.slots.size = A.slots.size ∧ ∀ j, j < A.slots.size → V.slots[j]? = some (.int (lo8 (cv A j)))) ∧
  ∀ (O n d : String) (w : Value), RoadKit.Fld Z h x O n d w → RoadKit.slotOf Z O n d ≠ RoadKit.slotOf Z ST "value" "[B" → RoadKit.slotOf Z O n d ≠ RoadKit.slotOf Z ST "coder" "B" → RoadKit.Fld Z h' x O n d w
/-- **new String(chars) AT A CALL, IN THE ROAD'S FORM**: for specialBack behind newO: x the fresh String, b the char[] with the cell A -/
theorem back {p : Program} {l : Launch} {e : Env} {R : Room} {s : State} {args : Array Value} {below : List Frame} {len W : Nat} {Z : State} {a0 : Array Value} {h : Heap} (hZ : Z.Warmed39 s.vm) (hw : ∀ d ∈ words, d.before a0 Z = true) {kI : Nat} (wi : (Jvm.Cond.instantiable ST kI).before a0 Z = true)
    {x b : Addr} {A : Cell} {z : Int32} {v0 c0 : Value} (E : RoadKit.Exa Z h x ST) (V : RoadKit.Fld Z h x ST "value" "[B" v0) (C : RoadKit.Fld Z h x ST "coder" "B" c0) (K : RoadKit.Arr Z h b A .char) (hty : Typed .char A) (S : RoadKit.Sta Z h ST "COMPACT_STRINGS" "Z" (.int z)) (hz : ¬ z = 0)
    (l0 : 0 < A.slots.size) (l2 : A.slots.size ≤ 536870912) (hp : ∀ i, i < A.slots.size → ¬ 255 < cv A i) (hfr : 4 ≤ R.frames) (hlo : W + 65 ≤ R.locals) :
    Back l R p e below s args New1.yN len W (fun P a => a = #[.ref x, .ref b] ∧ P.U.heap = h ∧ P.cells + 1 ≤ R.cells ∧ P.slots + A.slots.size ≤ R.slots)
      (fun P _ v B => ∃ L, Q Z x A h v B.U.heap L ∧ B.locs = P.locs ++ L ∧ B.cells = P.cells + 1 ∧ B.slots = P.slots + A.slots.size) := by
  intro m meth c P g ig mk a X hg hsize hdg hW hn hp'
  obtain ⟨rfl, rfl, r1, r2⟩ := hp'
  have al : Z.vm.Alike P.U.vm := hZ.alike.trans X.warmed.alike
  obtain ⟨D, cfV, kV, iV, fV, hD, gV, stV, knV, obV, asV, slV⟩ := id V
  obtain ⟨D', cfC, kC, iC, fC, hD', gC, stC, -, -, asC, slC⟩ := id C
  cases hD.symm.trans hD'
  obtain ⟨D2, kD, e1, e2, e3, e4, e5⟩ := id E
  cases hD.symm.trans e1
  obtain ⟨c2, k2, i1, i2, i3, -⟩ := Cond.instantiable_spec wi
  cases e2.symm.trans i1
  cases e3.symm.trans i2
  obtain ⟨kU, u1, u2⟩ := al.2.2 _ _ e3
  have hB : Blank ST x D P.U := ⟨hD, ⟨knV, fun q hq => by rw [hq] at obV; cases obV⟩, by rw [al.findClass]; exact e2, kU, u1, by rw [u2]; exact i3, by rw [u2]; exact e5 i3⟩
  have F1 : Found ST "value" "[B" fV P.U := ⟨SBG.found_only al ⟨cfV, kV, iV, gV⟩, stV⟩
  have F2 : Found ST "coder" "B" fC P.U := ⟨SBG.found_only al ⟨cfC, kC, iC, gC⟩, stC⟩
  have hA : Ch b A P.U := ⟨⟨K.1, State.isArrayOf_alike al K.2.1, K.2.2, by omega⟩, hty⟩
  have hS : StaticIs P.U ST "COMPACT_STRINGS" "Z" (.int z) := by
    obtain ⟨cfS, iS, kS, fS, st, cS, t1, t2, t3, t4, t5, t6, t7⟩ := S
    exact StaticIs.there (s := { Z with heap := P.U.heap }) ⟨cfS, iS, kS, fS, st, cS, t1, t2, t3, t4, t5, (fun q => by rw [q] at t6; cases t6), t7⟩ al rfl
  obtain ⟨v, B, X', ⟨⟨hv, E', V', q1, q2, q3, q4, q5, q6, q7, q8, q9, q10, q11⟩, hl, hc, hs⟩, st⟩ := New1.pays x D fV fC b A z (tab_of (moved hZ hw)) hfr hlo m meth c P g ig mk _ X hg hsize hdg hW hn ⟨r1, r2, rfl, hB, F1, F2, hA, hS, hz, l0, l2, hp⟩
  have al' : Z.vm.Alike B.U.vm := hZ.alike.trans X'.warmed.alike
  have hsz : E'.slots.size = D.slots.size := by
    obtain ⟨-, -, -, kB, w1, w2, w3⟩ := q1
    obtain ⟨kB', y1, y2⟩ := al'.2.2 _ _ e3
    rw [q2.2.1] at w1
    cases w1.symm.trans y1
    rw [w3, e5 i3, y2]
  refine ⟨v, B, X', ⟨_, ⟨hv, ?_, ⟨by omega, fun y cy hy hn' => q10 y cy (by simpa using hn') hy, fun y cy hy => ?_⟩, q11, ⟨E', _, q1.1, by rw [q2.2.1]; exact e2, by rw [q2.2.1]; exact e3, by rw [q2.1]; exact obV, fun _ => by rw [hsz]; exact e5 i3⟩,
    ⟨E', cfV, kV, iV, fV, q1.1, gV, stV, by rw [q2.1]; exact knV, by rw [q2.1]; exact obV, by rw [q2.2.1]; exact asV, q3⟩, ⟨E', cfC, kC, iC, fC, q1.1, gC, stC, by rw [q2.1]; exact knV, by rw [q2.1]; exact obV, by rw [q2.2.1]; exact asC, q4⟩,
    ⟨V', ⟨q5.1, State.isArrayOf_alike al'.symm q5.2.1, q5.2.2.1⟩, q6, by rw [← al'.findClass]; exact q7, q8, fun j hj => by have := q9 j hj; rwa [Nat.zero_add] at this⟩, fun O n d w F n1 n2 => ?_⟩, hl, hc, hs⟩, st⟩
  · intro y hy
    simp only [List.mem_cons, List.not_mem_nil, or_false] at hy
    rcases hy with rfl | rfl <;> rfl
  · by_cases q : y = x
    · subst q
      cases hD.symm.trans hy
      exact ⟨E', q1.1, q2.2.1, q2.1, hsz⟩
    · exact ⟨cy, q10 y cy q hy, rfl, rfl, rfl⟩
  · obtain ⟨D3, cf, k, i, f, g1, g2, g3, g4, g5, g6, g7⟩ := F
    cases hD.symm.trans g1
    simp only [RoadKit.slotOf, g2, gV, gC, Option.map_some, Option.getD_some] at n1 n2
    exact ⟨E', cf, k, i, f, q1.1, g2, g3, by rw [q2.1]; exact g4, by rw [q2.1]; exact g5, by rw [q2.2.1]; exact g6, by rw [q2.2.2 f.slot (by simp [n1, n2])]; exact g7⟩
end StrChars.Road
namespace StrChars.Road
open Jvm Sem ClassFile Op Lib Jvm.Stand Jvm.Free Jvm.Free.XT
/-- WHAT COMES BACK, the byte[] as a list of values -/
def QA (Z : State) (x : Addr) (zn : Int32) (cs : List Int32) (h : Heap) (v : Option Value) (h' : Heap) (L : List Loc) : Prop := v = none ∧ (∀ y ∈ L, y.base = x) ∧ RoadKit.Keep h h' [x] ∧ h'.size = h.size + 1 ∧ RoadKit.Exa Z h' x ST ∧ RoadKit.Fld Z h' x ST "value" "[B" (.ref h.size) ∧ RoadKit.Fld Z h' x ST "coder" "B" (.int 0) ∧
  (∃ kb, Z.vm.findClass "[B" = some kb ∧ RoadKit.Arv Z h' h.size kb .byte zn (cs.map fun c => .int (lo8 c)) (.int 0)) ∧
  ∀ (O n d : String) (w : Value), RoadKit.Fld Z h x O n d w → RoadKit.slotOf Z O n d ≠ RoadKit.slotOf Z ST "value" "[B" → RoadKit.slotOf Z O n d ≠ RoadKit.slotOf Z ST "coder" "B" → RoadKit.Fld Z h' x O n d w
/-- **new String(chars) AT A CALL, THE ARRAYS AS LISTS**: the char[] at b holds cs, not empty, no char above 255 -/
theorem backArv {p : Program} {l : Launch} {e : Env} {R : Room} {s : State} {args : Array Value} {below : List Frame} {len W : Nat} {Z : State} {a0 : Array Value} {h : Heap} (hZ : Z.Warmed39 s.vm) (hw : ∀ d ∈ words, d.before a0 Z = true) {kI : Nat} (wi : (Jvm.Cond.instantiable ST kI).before a0 Z = true)
    {x b : Addr} {k : ClassId} {zn z : Int32} {cs : List Int32} {dv v0 c0 : Value} (E : RoadKit.Exa Z h x ST) (V : RoadKit.Fld Z h x ST "value" "[B" v0) (C : RoadKit.Fld Z h x ST "coder" "B" c0) (K : RoadKit.Arv Z h b k .char zn (cs.map Value.int) dv) (S : RoadKit.Sta Z h ST "COMPACT_STRINGS" "Z" (.int z)) (hz : ¬ z = 0)
    (hlen : zn.toNatClampNeg = cs.length) (h0 : 0 < cs.length) (hbig : cs.length ≤ 536870912) (hall : ∀ c ∈ cs, ¬ 255 < c) (hfr : 4 ≤ R.frames) (hlo : W + 65 ≤ R.locals) :
    Back l R p e below s args New1.yN len W (fun P a => a = #[.ref x, .ref b] ∧ P.U.heap = h ∧ P.cells + 1 ≤ R.cells ∧ P.slots + cs.length ≤ R.slots)
      (fun P _ v B => ∃ L, QA Z x zn cs h v B.U.heap L ∧ B.locs = P.locs ++ L ∧ B.cells = P.cells + 1 ∧ B.slots = P.slots + cs.length) := by
  obtain ⟨A, K1, K2, K3, K4, K5, K6⟩ := K
  have e : A.slots.size = cs.length := K3.trans hlen
  have hat : ∀ (i : Nat) (hi : i < cs.length), A.slots[i]? = some (.int cs[i]) := fun i hi => by rw [K5 i (by omega)]; simp [List.getD_eq_getElem?_getD, hi]
  have hcv : ∀ (i : Nat) (hi : i < cs.length), cv A i = cs[i] := fun i hi => by unfold cv; rw [hat i hi]
  have hty : Typed .char A := fun i v hv => by
    have hi : i < A.slots.size := (Array.getElem?_eq_some_iff.mp hv).1
    have q := K5 i hi
    rw [hv] at q
    rw [Option.some.inj q]
    exact K6 i hi
  refine Back.mono (back hZ hw wi E V C K1 hty S hz (by omega) (by omega) (fun i hi => by rw [hcv i (by omega)]; exact hall _ (List.getElem_mem _)) hfr hlo) (fun P a hp => ⟨hp.1, hp.2.1, hp.2.2.1, by rw [e]; exact hp.2.2.2⟩) (fun P a v B hp hq => ?_)
  obtain ⟨L, ⟨q1, q2, q3, q4, q5, q6, q7, ⟨V', v1, v2, v3, v4, v5⟩, q9⟩, hl, hc, hs⟩ := hq
  refine ⟨L, ⟨q1, q2, q3, q4, q5, q6, q7, ⟨V'.cls, v3, V', v1, rfl, by rw [v4, e, hlen], K4, fun i hi => ?_, fun i hi => ?_⟩, q9⟩, hl, hc, by rw [hs, e]⟩
  · have hi' : i < cs.length := by omega
    rw [v5 i (by omega), hcv i hi']; simp [List.getD_eq_getElem?_getD, hi']
  · have hi' : i < cs.length := by omega
    simp only [List.getD_eq_getElem?_getD, List.getElem?_map, List.getElem?_eq_getElem hi', Option.map_some, Option.getD_some]
    exact fits_lo8 _
end StrChars.Road
namespace StrChars.Road
open Jvm Sem ClassFile Op Lib Jvm.Stand Jvm.Free Jvm.Free.XT
/-- WHAT COMES BACK, in the writer's own shape -/
def QV (Z : State) (x : Addr) (N : Int32) (bs : List Int32) (h : Heap) (n0 : Nat) (v : Option Value) (h' : Heap) (L : List Loc) : Prop := v = none ∧ RoadKit.Fr n0 L ∧ RoadKit.Keep h h' [x] ∧ RoadKit.Exa Z h' x ST ∧ RoadKit.Fld Z h' x ST "coder" "B" (.int 0) ∧
  ∃ (t : Addr) (kb : ClassId), n0 ≤ t ∧ h.size ≤ t ∧ ¬ t = x ∧ RoadKit.Fld Z h' x ST "value" "[B" (.ref t) ∧ RoadKit.Arv Z h' t kb .byte N (bs.map Value.int) (.int 0)
/-- **new String(chars) AT A CALL, FOR THE WRITER**: a char[] of n known ints, each 0 to 255 -/
theorem backV {p : Program} {l : Launch} {e : Env} {R : Room} {s : State} {args : Array Value} {below : List Frame} {len W : Nat} {Z : State} {a0 : Array Value} {h : Heap} (hZ : Z.Warmed39 s.vm) (hw : ∀ d ∈ words, d.before a0 Z = true) {kI : Nat} (wi : (Jvm.Cond.instantiable ST kI).before a0 Z = true)
    {x b : Addr} {kC : ClassId} {cs bs : List Int32} {d v0 c0 : Value} {z N : Int32} {n n0 : Nat} (hx0 : n0 ≤ x) (hh0 : n0 ≤ h.size) (E : RoadKit.Exa Z h x ST) (V : RoadKit.Fld Z h x ST "value" "[B" v0) (C : RoadKit.Fld Z h x ST "coder" "B" c0) (K : RoadKit.Arv Z h b kC .char N (cs.map Value.int) d) (S : RoadKit.Sta Z h ST "COMPACT_STRINGS" "Z" (.int z)) (hz : ¬ z = 0)
    (hn : cs.length = n) (hN : N = Int32.ofNat n) (l0 : 0 < n) (l2 : n ≤ 4000) (hp : ∀ c ∈ cs, ¬ c < 0 ∧ ¬ (255 : Int32) < c) (hb : bs = cs.map (fun c => c.toInt8.toInt32)) (hfr : 4 ≤ R.frames) (hlo : W + 65 ≤ R.locals) :
    Back l R p e below s args (⟨"java/lang/String", "<init>", "([C)V"⟩ : MethodName) len W (fun P a => a = #[.ref x, .ref b] ∧ P.U.heap = h ∧ P.cells + 1 ≤ R.cells ∧ P.slots + n ≤ R.slots)
      (fun P _ v B => ∃ L, QV Z x N bs h n0 v B.U.heap L ∧ B.locs = P.locs ++ L ∧ B.cells = P.cells + 1 ∧ B.slots = P.slots + n) := by
  subst hn hN hb
  refine Back.mono (backArv hZ hw wi E V C K S hz (n32 (by omega)) l0 (by omega) (fun c hc => (hp c hc).2) hfr hlo) (fun P a hp => hp) (fun P a v B hp hq => ?_)
  obtain ⟨L, ⟨q1, q2, q3, q4, q5, q6, q7, ⟨kb, v1, v2⟩, q9⟩, hl, hc, hs⟩ := hq
  exact ⟨L, ⟨q1, fun y hy => by rw [q2 y hy]; exact hx0, q3, q5, q7, h.size, kb, hh0, Nat.le_refl _, Nat.ne_of_gt E.lt, q6, by rw [List.map_map]; exact v2⟩, hl, hc, hs⟩
end StrChars.Road
namespace StrChars
open Jvm Sem ClassFile Op Lib Jvm.Stand Jvm.Free.XT Jvm.Free.ALB Jvm.Free.JM Jvm.Free
open Jvm.Lib.Cold (StaticIs)
def hi8 (x : Int32) : Int32 := lo8 (x >>> ((8 : Int32) &&& 31))
/-- what StringUTF16.getChar makes of two bytes -/
def pairCh (u v : Int32) : Int32 := (((u &&& 255) <<< ((0 : Int32) &&& 31)) ||| ((v &&& 255) <<< ((8 : Int32) &&& 31))).toUInt32.toUInt16.toUInt32.toInt32
theorem shr0 (c : Int32) : c >>> ((0 : Int32) &&& 31) = c := by
  have e : ((0 : Int32) &&& 31) = 0 := by decide
  rw [e]
  apply Int32.toBitVec_inj.mp
  rw [Int32.toBitVec_shiftRight]
  have e1 : ((0 : Int32).toBitVec.smod 32) = 0#32 := by decide
  rw [e1, BitVec.sshiftRight_eq']
  exact BitVec.sshiftRight_zero
theorem lo8_and (x : Int32) : (lo8 x &&& 255).toBitVec.toNat = x.toBitVec.toNat % 256 := by
  have h : (lo8 x).toBitVec = (x.toBitVec.signExtend 8).signExtend 32 := by rw [lo8, Int8.toBitVec_toInt32, Int32.toBitVec_toInt8]
  rw [Int32.toBitVec_and, BitVec.toNat_and, h]
  have e : ((x.toBitVec.signExtend 8).signExtend 32).toNat % 256 = x.toBitVec.toNat % 256 := by
    rw [BitVec.toNat_signExtend]
    have hlt := x.toBitVec.isLt
    simp only [BitVec.toNat_setWidth, BitVec.toNat_signExtend]
    split <;> split <;> omega
  rw [← e]
  exact Nat.and_two_pow_sub_one_eq_mod _ 8
theorem pair_says {c : Int32} (h0 : ¬ c < 0) (h1 : ¬ 65535 < c) : pairCh (lo8 c) (hi8 c) = c := by
  rw [Int32.lt_iff_toInt_lt] at h0 h1
  have e0 : (0 : Int32).toInt = 0 := rfl
  have e1 : (65535 : Int32).toInt = 65535 := rfl
  have hc : c.toInt = c.toBitVec.toNat := by
    have := c.toBitVec.isLt
    have e : c.toInt = c.toBitVec.toInt := rfl
    rw [e] at h0 h1
    rw [e]
    rw [BitVec.toInt_eq_toNat_cond] at h0 h1 ⊢
    split at h0 <;> split <;> omega
  have hn : c.toBitVec.toNat < 65536 := by omega
  have a1 := lo8_and c
  have a2 : (hi8 c &&& 255).toBitVec.toNat = c.toBitVec.toNat / 256 := by
    rw [hi8, lo8_and]
    have e : ((8 : Int32) &&& 31) = 8 := by decide
    rw [e, Int32.toBitVec_shiftRight]
    have e2 : ((8 : Int32).toBitVec.smod 32) = 8#32 := by decide
    rw [e2, BitVec.sshiftRight_eq', BitVec.toNat_sshiftRight_of_msb_false (by rw [BitVec.msb_eq_false_iff_two_mul_lt]; omega)]
    show c.toBitVec.toNat >>> 8 % 256 = _
    rw [Nat.shiftRight_eq_div_pow]
    omega
  unfold pairCh
  apply Int32.toBitVec_inj.mp
  apply BitVec.eq_of_toNat_eq
  have f0 : ((0 : Int32) &&& 31) = 0 := by decide
  have f8 : ((8 : Int32) &&& 31) = 8 := by decide
  rw [f0, f8]
  have g : (((lo8 c &&& 255) <<< (0 : Int32)) ||| ((hi8 c &&& 255) <<< (8 : Int32))).toBitVec.toNat = c.toBitVec.toNat := by
    rw [Int32.toBitVec_or, Int32.toBitVec_shiftLeft, Int32.toBitVec_shiftLeft]
    have s0 : ((0 : Int32).toBitVec.smod 32) = 0#32 := by decide
    have s8 : ((8 : Int32).toBitVec.smod 32) = 8#32 := by decide
    rw [s0, s8, BitVec.toNat_or]
    simp only [BitVec.shiftLeft_eq', BitVec.toNat_shiftLeft, a1, a2]
    show (c.toBitVec.toNat % 256) <<< 0 % 2 ^ 32 ||| (c.toBitVec.toNat / 256) <<< 8 % 2 ^ 32 = _
    rw [Nat.shiftLeft_zero, Nat.mod_eq_of_lt (show c.toBitVec.toNat % 256 < 2 ^ 32 by omega), Nat.mod_eq_of_lt (show (c.toBitVec.toNat / 256) <<< 8 < 2 ^ 32 by rw [Nat.shiftLeft_eq]; omega), Nat.or_comm, ← Nat.shiftLeft_add_eq_or_of_lt (by omega), Nat.shiftLeft_eq]
    omega
  show BitVec.toNat (((((lo8 c &&& 255) <<< (0 : Int32)) ||| ((hi8 c &&& 255) <<< (8 : Int32))).toBitVec.setWidth 16).setWidth 32) = _
  rw [BitVec.toNat_setWidth, BitVec.toNat_setWidth, g]
  omega
end StrChars
namespace StrChars
open Jvm Sem ClassFile Op Lib Jvm.Stand Jvm.Free.XT Jvm.Free.ALB Jvm.Free.JM Jvm.Free
open Jvm.Lib.Cold (StaticIs)
theorem shr1 {n : Nat} (h : 2 * n < 2 ^ 31) : Int32.ofNat (2 * n) >>> ((1 : Int32) &&& 31) = Int32.ofNat n := by
  have e : ((1 : Int32) &&& 31) = 1 := by decide
  rw [e]
  apply Int32.toBitVec_inj.mp
  rw [Int32.toBitVec_shiftRight]
  have e1 : ((1 : Int32).toBitVec.smod 32) = 1#32 := by decide
  have hm : (BitVec.ofNat 32 (2 * n)).toNat = 2 * n := by rw [BitVec.toNat_ofNat, Nat.mod_eq_of_lt (by omega)]
  rw [e1, BitVec.sshiftRight_eq']
  apply BitVec.eq_of_toNat_eq
  show ((BitVec.ofNat 32 (2 * n)).sshiftRight 1).toNat = (BitVec.ofNat 32 n).toNat
  rw [BitVec.toNat_sshiftRight_of_msb_false (by rw [BitVec.msb_eq_false_iff_two_mul_lt, hm]; omega), hm, BitVec.toNat_ofNat, Nat.shiftRight_eq_div_pow]
  omega
/-- charAt's cast of a byte read back -/
def chr8 (u : Int32) : Int32 := (u &&& 255).toUInt32.toUInt16.toUInt32.toInt32
theorem chr8_lo8 {c : Int32} (h0 : ¬ c < 0) (h1 : ¬ 255 < c) : chr8 (lo8 c) = c := by
  have t : ∀ k : Fin 256, (Int32.ofNat k.val).toUInt32.toUInt16.toUInt32.toInt32 = Int32.ofNat k.val := by decide +kernel
  unfold chr8
  rw [lo8_mask h0 h1]
  rw [Int32.lt_iff_toInt_lt] at h0 h1
  have e0 : (0 : Int32).toInt = 0 := rfl
  have e1 : (255 : Int32).toInt = 255 := rfl
  obtain ⟨k, hk⟩ : ∃ k : Nat, c.toInt = k := ⟨c.toInt.toNat, by omega⟩
  have hx : c = Int32.ofNat k := Int32.toInt_inj.mp (by rw [hk, Int32.toInt_ofNat_small (by omega)])
  rw [hx]
  exact t ⟨k, by omega⟩
theorem narrow_ch {c : Int32} (h0 : ¬ c < 0) (h1 : ¬ 65535 < c) : narrow .char (.int c) = .int c := by
  have q : narrow .char (.int (pairCh (lo8 c) (hi8 c))) = .int (pairCh (lo8 c) (hi8 c)) := narrow_c _
  rwa [pair_says h0 h1] at q
/-- the array's cell V codes the n chars f 0 .. f (n - 1) by the coder cd, as the JDK does: coder 1 just where some char is above 255 -/
def Cod (cd : Int32) (n : Nat) (f : Nat → Int32) (V : Cell) : Prop := (cd = 0 ∧ V.slots.size = n ∧ ∀ j, j < n → V.slots[j]? = some (.int (lo8 (f j))) ∧ ¬ 255 < f j) ∨ (cd = 1 ∧ V.slots.size = 2 * n ∧ (∀ j, j < n → V.slots[2 * j]? = some (.int (lo8 (f j))) ∧ V.slots[2 * j + 1]? = some (.int (hi8 (f j)))) ∧ ∃ j, j < n ∧ 255 < f j)
theorem Cod.cd {cd : Int32} {n : Nat} {f : Nat → Int32} {V : Cell} (h : Cod cd n f V) : cd = 0 ∨ cd = 1 := h.imp (fun q => q.1) fun q => q.1
theorem Cod.len {cd : Int32} {n : Nat} {f : Nat → Int32} {V : Cell} (h : Cod cd n f V) (hs : V.slots.size < 2 ^ 31) : Int32.ofNat V.slots.size >>> (cd &&& 31) = Int32.ofNat n := by
  rcases h with ⟨rfl, h, -⟩ | ⟨rfl, h, -⟩
  · rw [shr0, h]
  · rw [h, shr1 (by omega)]
/-- **x is a String of the n chars f 0 .. f (n - 1)**, Latin-1 or UTF-16; its array at t has the cell V -/
def Txt (x t : Addr) (V : Cell) (cd : Int32) (n : Nat) (f : Nat → Int32) (U : State) : Prop := Exact "java/lang/String" x U ∧ Has x "java/lang/String" "value" "[B" (.ref t) U ∧ Has x "java/lang/String" "coder" "B" (.int cd) U ∧ XT.Arr .byte t V U ∧ Cod cd n f V ∧ ∀ j, j < n → ¬ f j < 0 ∧ ¬ 65535 < f j
theorem Txt.mv {x t : Addr} {V : Cell} {cd : Int32} {n : Nat} {f : Nat → Int32} {U U' : State} (h : Txt x t V cd n f U) (hal : U.vm.Alike U'.vm) (hh : U'.heap = U.heap) : Txt x t V cd n f U' := ⟨h.1.mv hal hh, h.2.1.mv hal hh, h.2.2.1.mv hal hh, h.2.2.2.1.mv hal hh, h.2.2.2.2⟩
namespace Cdr
def yN : MethodName := ⟨"java/lang/String", "coder", "()B"⟩
abbrev yB : ByteArray := jdk_42_method_152_code
theorem d0 : decode yB 0 = .ok (.getstatic 38, 3) := by decide +kernel
theorem d3 : decode yB 3 = .ok (.ifCond (.eq) 10, 3) := by decide +kernel
theorem d6 : decode yB 6 = .ok (.aload_n 0, 1) := by decide +kernel
theorem d7 : decode yB 7 = .ok (.getfield 15, 3) := by decide +kernel
theorem d10 : decode yB 10 = .ok (.goto 4, 3) := by decide +kernel
theorem d14 : decode yB 14 = .ok (.ireturn, 1) := by decide +kernel
def site : List Cond := [.fieldLink "java/lang/String" 38 "java/lang/String" "COMPACT_STRINGS" "Z", .fieldLink "java/lang/String" 15 "java/lang/String" "coder" "B"]
def tab : Cond := tabOf yN yB 1 (some .byte) site
def P (x : Addr) (cd z : Int32) (args : Array Value) (s : State) : Prop := args = #[.ref x] ∧ Has x "java/lang/String" "coder" "B" (.int cd) s ∧ (cd = 0 ∨ cd = 1) ∧ StaticIs s "java/lang/String" "COMPACT_STRINGS" "Z" (.int z) ∧ ¬ z = 0
def E (cd : Int32) (r : Option Value) (s u : State) : Prop := XT.PureE (some (.int cd)) r s u
theorem law (l : Launch) (x : Addr) (cd z : Int32) : Law l yN 1 0 0 0 yB 1 (some .byte) site (P x cd z) (E cd) [] 0 0 := by
  refine Law.of_walk (plainFor_of_name (by decide +kernel)) (by decide +kernel) (by decide +kernel) (by decide) (fun _ _ h => by rw [h.1]; rfl) (fun _ U U' hal hh h => ⟨h.1, h.2.1.mv hal hh, h.2.2.1, h.2.2.2.1.there hal hh, h.2.2.2.2⟩) (fun r U U' V V' h1 hal h2 h => XT.PureE.mv r U U' V V' h1 hal h2 h) ?_
  intro p e s m args below meth c s₁ X0 hexec hbytes hml hret hlk hnm hown hh0 W hP
  obtain ⟨rfl, hx, hc, s1, hz⟩ := hP
  have c1 : Steps p.tables e below (s₁.setTop (entryFrame m #[.ref x] 1)) (s₁.setTop (mkF m 0 #[.val (.ref x)] [])) := entry rfl
  obtain ⟨T2, X2, q2, st2⟩ := X0.sget hexec hown (wk W (.fieldLink "java/lang/String" 38 "java/lang/String" "COMPACT_STRINGS" "Z")) s1 (fun _ _ h => by rw [hh0]; exact h) (g := (mkF m 0 #[.val (.ref x)] [])) rfl (hb hbytes d0)
  have hh2 := q2.trans hh0
  have c3 : Steps p.tables e below (s₁.setTop (entryFrame m #[.ref x] 1)) (T2.setTop (mkF m 7 #[.val (.ref x)] [.ref x])) := (c1.trans (st2 _ (Steps.refl _))).trans (by
    refine XS.ifNo X2.here hexec rfl (hb hbytes d3) rfl (i0_eq_f hz) ?_
    refine XS.aloadN X2.here hexec rfl (hb hbytes d6) rfl rfl ?_
    exact Steps.refl _)
  obtain ⟨T4, X4, q4, st4⟩ := X2.hget hexec hown (wk W (.fieldLink "java/lang/String" 15 "java/lang/String" "coder" "B")) (hx.mv X2.warmed.alike hh2) (g := (mkF m 7 #[.val (.ref x)] [.ref x])) rfl (rest := []) rfl (hb hbytes d7)
  have c5 : Steps p.tables e below (s₁.setTop (entryFrame m #[.ref x] 1)) (T4.setTop (mkF m 14 #[.val (.ref x)] [.int cd])) := (c3.trans (st4 _ (Steps.refl _))).trans (by
    refine XS.goto X4.here hexec rfl (pc0 := 10) rfl (hb hbytes d10) (by decide) rfl ?_
    exact Steps.refl _)
  exact ⟨T4, some (.int cd), _, _, _, X4, rfl, rfl, rfl, (fun h => by cases h), ⟨rfl, q4.trans hh2⟩, fun fs hl => c5.trans (X4.ireturnOut hexec hret (by rcases hc with rfl | rfl <;> rfl) (Or.inr (Or.inr (Or.inl rfl))) (hb hbytes d14) hl)⟩
end Cdr
namespace Len
def yN : MethodName := ⟨"java/lang/String", "length", "()I"⟩
abbrev yB : ByteArray := jdk_42_method_54_code
theorem d0 : decode yB 0 = .ok (.aload_n 0, 1) := by decide +kernel
theorem d1 : decode yB 1 = .ok (.getfield 9, 3) := by decide +kernel
theorem d4 : decode yB 4 = .ok (.arraylength, 1) := by decide +kernel
theorem d5 : decode yB 5 = .ok (.aload_n 0, 1) := by decide +kernel
theorem d6 : decode yB 6 = .ok (.invokevirtual 335, 3) := by decide +kernel
theorem d9 : decode yB 9 = .ok (.ishr, 1) := by decide +kernel
theorem d10 : decode yB 10 = .ok (.ireturn, 1) := by decide +kernel
def site : List Cond := [.fieldLink "java/lang/String" 9 "java/lang/String" "value" "[B", Cdr.tab] ++ virtW "java/lang/String" 335 "java/lang/String" Cdr.yN Cdr.yN
def tab : Cond := tabOf yN yB 1 (some .int) site
def P (x t : Addr) (V : Cell) (cd : Int32) (n : Nat) (f : Nat → Int32) (z : Int32) (args : Array Value) (s : State) : Prop := args = #[.ref x] ∧ Txt x t V cd n f s ∧ StaticIs s "java/lang/String" "COMPACT_STRINGS" "Z" (.int z) ∧ ¬ z = 0
def E (n : Nat) (r : Option Value) (s u : State) : Prop := XT.PureE (some (.int (Int32.ofNat n))) r s u
/-- length() of a String of n chars, in either coding -/
theorem law (l : Launch) (x t : Addr) (V : Cell) (cd : Int32) (n : Nat) (f : Nat → Int32) (z : Int32) : Law l yN 1 0 1 13 yB 1 (some .int) site (P x t V cd n f z) (E n) [] 0 0 := by
  refine Law.of_walk (plainFor_of_name (by decide +kernel)) (by decide +kernel) (by decide +kernel) (by decide) (fun _ _ h => by rw [h.1]; rfl) (fun _ U U' hal hh h => ⟨h.1, h.2.1.mv hal hh, h.2.2.1.there hal hh, h.2.2.2⟩) (fun r U U' V V' h1 hal h2 h => XT.PureE.mv r U U' V V' h1 hal h2 h) ?_
  intro p e s m args below meth c s₁ X0 hexec hbytes hml hret hlk hnm hown hh0 W hP
  obtain ⟨rfl, hx, s1, hz⟩ := hP
  have v31 := hx.2.2.2.1.2.2.2
  have c1 : Steps p.tables e below (s₁.setTop (entryFrame m #[.ref x] 1)) (s₁.setTop (mkF m 1 #[.val (.ref x)] [.ref x])) := Steps.trans (entry rfl) (by
    show Steps p.tables e below (s₁.setTop (mkF m 0 #[.val (.ref x)] [])) _
    refine XS.aloadN X0.here hexec rfl (hb hbytes d0) rfl rfl ?_
    exact Steps.refl _)
  obtain ⟨T2, X2, q2, st2⟩ := X0.hget hexec hown (wk W (.fieldLink "java/lang/String" 9 "java/lang/String" "value" "[B")) (hx.mv X0.warmed.alike hh0).2.1 (g := (mkF m 1 #[.val (.ref x)] [.ref x])) rfl (rest := []) rfl (hb hbytes d1)
  have hh2 := q2.trans hh0
  have hx2 := hx.mv X2.warmed.alike hh2
  have c3 : Steps p.tables e below (s₁.setTop (entryFrame m #[.ref x] 1)) (T2.setTop (mkF m 6 #[.val (.ref x)] [.ref x, .int (Int32.ofNat V.slots.size)])) := (c1.trans (st2 _ (Steps.refl _))).trans (by
    refine X2.alen hexec hx2.2.2.2.1 rfl rfl (hb hbytes d4) ?_
    refine XS.aloadN X2.here hexec rfl (hb hbytes d5) rfl rfl ?_
    exact Steps.refl _)
  obtain ⟨v4, T4, X4, E4, g4⟩ := X2.callV hexec (Cdr.law l x cd z) hown (wks W (virtW "java/lang/String" 335 "java/lang/String" Cdr.yN Cdr.yN)) rfl (by decide) (wk W Cdr.tab) (W := 1) (Nat.le_of_ble_eq_true rfl) (Nat.le_of_ble_eq_true rfl) (Nat.le_refl _) (Nat.le_refl _) (hx2.1.fc X2.warmed.alike) hx2.1.is (g := (mkF m 6 #[.val (.ref x)] [.ref x, .int (Int32.ofNat V.slots.size)])) rfl (by rw [hml]; rfl) c3 (argsL := []) (rest := [.int (Int32.ofNat V.slots.size)]) rfl rfl (by show 2 * 0 + (1 + 0) ≤ _; decide) (hb hbytes d6) (⟨rfl, hx2.2.2.1, hx.2.2.2.2.1.cd, s1.there X2.warmed.alike hh2, hz⟩)
  obtain ⟨rfl, q4⟩ := E4
  have c5 : Steps p.tables e below (s₁.setTop (entryFrame m #[.ref x] 1)) (T4.setTop (mkF m 10 #[.val (.ref x)] [.int (Int32.ofNat V.slots.size >>> (cd &&& 31))])) := Steps.trans g4 (by
    refine ishr X4.here hexec rfl (hb hbytes d9) rfl ?_
    exact Steps.refl _)
  rw [hx.2.2.2.2.1.len v31] at c5
  exact ⟨T4, some (.int (Int32.ofNat n)), _, _, _, X4, rfl, rfl, rfl, (fun h => by cases h), ⟨rfl, q4.trans hh2⟩, fun fs hl => c5.trans (X4.ireturnOut hexec hret rfl (Or.inl rfl) (hb hbytes d10) hl)⟩
theorem pays {l : Launch} {R : Room} {p : Program} {e : Env} {below : List Frame} {s : State} {sargs : Array Value} {len W : Nat} (x t : Addr) (V : Cell) (cd : Int32) (n : Nat) (f : Nat → Int32) (z : Int32) (htab : tab.before sargs s = true) (hfr : 2 ≤ R.frames) (hlo : W + 25 ≤ R.locals) :
    Back l R p e below s sargs yN len W (fun A₁ a₁ => A₁.cells + 0 ≤ R.cells ∧ A₁.slots + 0 ≤ R.slots ∧ P x t V cd n f z a₁ A₁.U) (fun A₁ _ v₁ B₁ => E n v₁ A₁.U B₁.U ∧ B₁.locs = A₁.locs ++ [] ∧ B₁.cells = A₁.cells + 0 ∧ B₁.slots = A₁.slots + 0) :=
  (law l x t V cd n f z).pays htab hfr (by omega)
end Len
namespace IsL
def yN : MethodName := ⟨"java/lang/String", "isLatin1", "()Z"⟩
abbrev yB : ByteArray := jdk_42_method_154_code
theorem d0 : decode yB 0 = .ok (.getstatic 38, 3) := by decide +kernel
theorem d3 : decode yB 3 = .ok (.ifCond (.eq) 14, 3) := by decide +kernel
theorem d6 : decode yB 6 = .ok (.aload_n 0, 1) := by decide +kernel
theorem d7 : decode yB 7 = .ok (.getfield 15, 3) := by decide +kernel
theorem d10 : decode yB 10 = .ok (.ifCond (.ne) 7, 3) := by decide +kernel
theorem d13 : decode yB 13 = .ok (.iconst 1, 1) := by decide +kernel
theorem d14 : decode yB 14 = .ok (.goto 4, 3) := by decide +kernel
theorem d17 : decode yB 17 = .ok (.iconst 0, 1) := by decide +kernel
theorem d18 : decode yB 18 = .ok (.ireturn, 1) := by decide +kernel
def site : List Cond := [.fieldLink "java/lang/String" 38 "java/lang/String" "COMPACT_STRINGS" "Z", .fieldLink "java/lang/String" 15 "java/lang/String" "coder" "B"]
def tab : Cond := tabOf yN yB 1 (some .boolean) site
def P (x : Addr) (cd z : Int32) (args : Array Value) (s : State) : Prop := args = #[.ref x] ∧ Has x "java/lang/String" "coder" "B" (.int cd) s ∧ (cd = 0 ∨ cd = 1) ∧ StaticIs s "java/lang/String" "COMPACT_STRINGS" "Z" (.int z) ∧ ¬ z = 0
def E (cd : Int32) (r : Option Value) (s u : State) : Prop := XT.PureE (some (.int (1 - cd))) r s u
theorem law (l : Launch) (x : Addr) (cd z : Int32) : Law l yN 1 0 0 0 yB 1 (some .boolean) site (P x cd z) (E cd) [] 0 0 := by
  refine Law.of_walk (plainFor_of_name (by decide +kernel)) (by decide +kernel) (by decide +kernel) (by decide) (fun _ _ h => by rw [h.1]; rfl) (fun _ U U' hal hh h => ⟨h.1, h.2.1.mv hal hh, h.2.2.1, h.2.2.2.1.there hal hh, h.2.2.2.2⟩) (fun r U U' V V' h1 hal h2 h => XT.PureE.mv r U U' V V' h1 hal h2 h) ?_
  intro p e s m args below meth c s₁ X0 hexec hbytes hml hret hlk hnm hown hh0 W hP
  obtain ⟨rfl, hx, hc, s1, hz⟩ := hP
  have c1 : Steps p.tables e below (s₁.setTop (entryFrame m #[.ref x] 1)) (s₁.setTop (mkF m 0 #[.val (.ref x)] [])) := entry rfl
  obtain ⟨T2, X2, q2, st2⟩ := X0.sget hexec hown (wk W (.fieldLink "java/lang/String" 38 "java/lang/String" "COMPACT_STRINGS" "Z")) s1 (fun _ _ h => by rw [hh0]; exact h) (g := (mkF m 0 #[.val (.ref x)] [])) rfl (hb hbytes d0)
  have hh2 := q2.trans hh0
  have c3 : Steps p.tables e below (s₁.setTop (entryFrame m #[.ref x] 1)) (T2.setTop (mkF m 7 #[.val (.ref x)] [.ref x])) := (c1.trans (st2 _ (Steps.refl _))).trans (by
    refine XS.ifNo X2.here hexec rfl (hb hbytes d3) rfl (i0_eq_f hz) ?_
    refine XS.aloadN X2.here hexec rfl (hb hbytes d6) rfl rfl ?_
    exact Steps.refl _)
  obtain ⟨T4, X4, q4, st4⟩ := X2.hget hexec hown (wk W (.fieldLink "java/lang/String" 15 "java/lang/String" "coder" "B")) (hx.mv X2.warmed.alike hh2) (g := (mkF m 7 #[.val (.ref x)] [.ref x])) rfl (rest := []) rfl (hb hbytes d7)
  have c5 : Steps p.tables e below (s₁.setTop (entryFrame m #[.ref x] 1)) (T4.setTop (mkF m 10 #[.val (.ref x)] [.int cd])) := c3.trans (st4 _ (Steps.refl _))
  have c6 : Steps p.tables e below (s₁.setTop (entryFrame m #[.ref x] 1)) (T4.setTop (mkF m 18 #[.val (.ref x)] [.int (1 - cd)])) := by
    rcases hc with rfl | rfl
    · exact c5.trans (by
        refine XS.ifNo X4.here hexec rfl (hb hbytes d10) rfl (i0_ne_f rfl) ?_
        refine iconstV X4.here hexec rfl 1 (hb hbytes d13) (by decide) ?_
        refine XS.goto X4.here hexec rfl (pc0 := 14) rfl (hb hbytes d14) (by decide) rfl ?_
        exact Steps.refl _)
    · exact c5.trans (by
        refine XS.ifYes X4.here hexec rfl (pc0 := 10) rfl (hb hbytes d10) rfl (i0_ne_t (by decide)) (by decide) rfl ?_
        refine iconstV X4.here hexec rfl 0 (hb hbytes d17) (by decide) ?_
        exact Steps.refl _)
  exact ⟨T4, some (.int (1 - cd)), _, _, _, X4, rfl, rfl, rfl, (fun h => by cases h), ⟨rfl, q4.trans hh2⟩, fun fs hl => c6.trans (X4.ireturnOut hexec hret (by rcases hc with rfl | rfl <;> rfl) (Or.inr (Or.inl rfl)) (hb hbytes d18) hl)⟩
end IsL
namespace LChA
def yN : MethodName := ⟨"java/lang/StringLatin1", "charAt", "([BI)C"⟩
abbrev yB : ByteArray := jdk_43_method_2_code
theorem d0 : decode yB 0 = .ok (.iload_n 1, 1) := by decide +kernel
theorem d1 : decode yB 1 = .ok (.aload_n 0, 1) := by decide +kernel
theorem d2 : decode yB 2 = .ok (.arraylength, 1) := by decide +kernel
theorem d3 : decode yB 3 = .ok (.invokestatic 9, 3) := by decide +kernel
theorem d6 : decode yB 6 = .ok (.aload_n 0, 1) := by decide +kernel
theorem d7 : decode yB 7 = .ok (.iload_n 1, 1) := by decide +kernel
theorem d8 : decode yB 8 = .ok (.baload, 1) := by decide +kernel
theorem d9 : decode yB 9 = .ok (.sipush 255, 3) := by decide +kernel
theorem d12 : decode yB 12 = .ok (.iand, 1) := by decide +kernel
theorem d13 : decode yB 13 = .ok (.i2c, 1) := by decide +kernel
theorem d14 : decode yB 14 = .ok (.ireturn, 1) := by decide +kernel
def site : List Cond := [JO.Str_checkIndex.tab] ++ staticW "java/lang/StringLatin1" 9 JO.Str_checkIndex.yN
def tab : Cond := tabOf yN yB 2 (some .char) site
def P (t : Addr) (V : Cell) (i : Nat) (u : Int32) (fm : Value) (args : Array Value) (s : State) : Prop := args = #[.ref t, .int (Int32.ofNat i)] ∧ XT.Arr .byte t V s ∧ V.slots[i]? = some (.int u) ∧ (StaticIs s "jdk/internal/util/Preconditions" "SIOOBE_FORMATTER" "Ljava/util/function/BiFunction;" fm ∧ fm.isRef = true)
def E (u : Int32) (r : Option Value) (s w : State) : Prop := XT.PureE (some (.int (chr8 u))) r s w
theorem law (l : Launch) (t : Addr) (V : Cell) (i : Nat) (u : Int32) (fm : Value) : Law l yN 2 2 2 27 yB 2 (some .char) site (P t V i u fm) (E u) [] 0 0 := by
  refine Law.of_walk (plainFor_of_name (by decide +kernel)) (by decide +kernel) (by decide +kernel) (by decide) (fun _ _ h => by rw [h.1]; rfl) (fun _ U U' hal hh h => ⟨h.1, h.2.1.mv hal hh, h.2.2.1, h.2.2.2.1.there hal hh, h.2.2.2.2⟩) (fun r U U' V V' h1 hal h2 h => XT.PureE.mv r U U' V V' h1 hal h2 h) ?_
  intro p e s m args below meth c s₁ X0 hexec hbytes hml hret hlk hnm hown hh0 W hP
  obtain ⟨rfl, hV, hu, s1, rf⟩ := hP
  have v31 := hV.2.2.2
  have hi : i < V.slots.size := (Array.getElem?_eq_some_iff.mp hu).1
  have c1 : Steps p.tables e below (s₁.setTop (entryFrame m #[.ref t, .int (Int32.ofNat i)] 2)) (s₁.setTop (mkF m 0 #[.val (.ref t), .val (.int (Int32.ofNat i))] [])) := entry rfl
  have c2 : Steps p.tables e below (s₁.setTop (entryFrame m #[.ref t, .int (Int32.ofNat i)] 2)) (s₁.setTop (mkF m 3 #[.val (.ref t), .val (.int (Int32.ofNat i))] [.int (Int32.ofNat V.slots.size), .int (Int32.ofNat i)])) := c1.trans (by
    refine XS.iloadN X0.here hexec rfl (hb hbytes d0) rfl ?_
    refine XS.aloadN X0.here hexec rfl (hb hbytes d1) rfl rfl ?_
    refine X0.alen hexec (hV.mv X0.warmed.alike hh0) rfl rfl (hb hbytes d2) ?_
    exact Steps.refl _)
  obtain ⟨v3, T3, X3, E3, g3⟩ := X0.callS hexec (JO.Str_checkIndex.law l (Int32.ofNat i) (Int32.ofNat V.slots.size) fm) hown (wks W (staticW "java/lang/StringLatin1" 9 JO.Str_checkIndex.yN)) (wk W JO.Str_checkIndex.tab) (W := 0) (Nat.le_of_ble_eq_true rfl) (Nat.le_of_ble_eq_true rfl) (Nat.le_refl _) (Nat.le_refl _) (g := (mkF m 3 #[.val (.ref t), .val (.int (Int32.ofNat i))] [.int (Int32.ofNat V.slots.size), .int (Int32.ofNat i)])) rfl (by rw [hml]; rfl) c2 (argsL := [.int (Int32.ofNat i), .int (Int32.ofNat V.slots.size)]) (rest := []) rfl rfl (by show 2 * 0 + 0 ≤ _; decide) (hb hbytes d3) (⟨rfl, rf, s1.there X0.warmed.alike hh0, Int32.ofNat_not_neg (by omega), lt32 v31 hi⟩)
  obtain ⟨rfl, q3⟩ := E3
  have hh3 := q3.trans hh0
  have c4 : Steps p.tables e below (s₁.setTop (entryFrame m #[.ref t, .int (Int32.ofNat i)] 2)) (T3.setTop (mkF m 14 #[.val (.ref t), .val (.int (Int32.ofNat i))] [.int (chr8 u)])) := Steps.trans g3 (by
    refine XS.aloadN X3.here hexec rfl (hb hbytes d6) rfl rfl ?_
    refine XS.iloadN X3.here hexec rfl (hb hbytes d7) rfl ?_
    refine X3.aget hexec (hV.mv X3.warmed.alike hh3) rfl hu rfl rfl (hb hbytes d8) ?_
    refine sipushV X3.here hexec rfl 255 (hb hbytes d9) (by decide) ?_
    refine XS.iand X3.here hexec rfl (hb hbytes d12) rfl ?_
    refine i2c X3.here hexec rfl (hb hbytes d13) rfl ?_
    exact Steps.refl _)
  exact ⟨T3, some (.int (chr8 u)), _, _, _, X3, rfl, rfl, rfl, (fun h => by cases h), ⟨rfl, hh3⟩, fun fs hl => c4.trans (X3.ireturnOut hexec hret (narrow_c _) (Or.inr (Or.inr (Or.inr (Or.inl rfl)))) (hb hbytes d14) hl)⟩
end LChA
end StrChars
namespace StrChars.Road
open Jvm Sem ClassFile Op Lib Jvm.Stand Jvm.Free Jvm.Free.XT
open Jvm.Lib.Cold (StaticIs)
theorem consq {a : Array Value} {s : State} {c : Jvm.Cond} {L : List Jvm.Cond} (h0 : c.before a s = true) (h : ∀ w ∈ L, w.before a s = true) : ∀ w ∈ c :: L, w.before a s = true := fun w hw => (List.mem_cons.mp hw).elim (fun e => e ▸ h0) (h w)
/-- the words of String.length(), either coding -/
abbrev wordsLen : List Jvm.Cond := [.code Len.yN Len.yB 1 (some .int), .initialized ST, .fieldLink ST 9 ST "value" "[B", .fieldLink ST 38 ST "COMPACT_STRINGS" "Z", .fieldLink ST 15 ST "coder" "B", .code Cdr.yN Cdr.yB 1 (some .byte), .methodLink ST 335 Cdr.yN, .declares Cdr.yN, .selects ST Cdr.yN Cdr.yN, .instanceMethod Cdr.yN]
theorem tabLen_of {a : Array Value} {s : State} (h : ∀ w ∈ wordsLen, w.before a s = true) : Len.tab.before a s = true := by
  have hc : Cdr.tab.before a s = true := unparts (wk h (.code Cdr.yN Cdr.yB 1 (some .byte))) (wks h (.initialized Cdr.yN.cls :: Cdr.site))
  have q := consq hc h
  exact unparts (wk q (.code Len.yN Len.yB 1 (some .int))) (wks q (.initialized Len.yN.cls :: Len.site))
theorem movedLen {Z s : State} {a0 args : Array Value} (hZ : Z.Warmed39 s.vm) (hw : ∀ d ∈ wordsLen, d.before a0 Z = true) : ∀ d ∈ wordsLen, d.before args s = true := fun d hd => by
  have q := hw d hd
  have t : ∀ d ∈ wordsLen, d = .arrayClass .byte ∨ (d.onTables && d.keepsFace) = true := by decide +kernel
  rcases t d hd with rfl | t
  · exact RoadKit.mvA hZ q
  · exact RoadKit.mv hZ q t
/-- the bytes of the chars cs, low before high -/
def wideBytes : List Int32 → List Value
  | [] => []
  | c :: cs => .int (lo8 c) :: .int (hi8 c) :: wideBytes cs
theorem wide_lo (d : Value) : ∀ (cs : List Int32) (j : Nat), j < cs.length → (wideBytes cs).getD (2 * j) d = .int (lo8 (cs.getD j 0))
  | [], j, h => absurd h (Nat.not_lt_zero j)
  | c :: cs, 0, _ => rfl
  | c :: cs, j + 1, h => by
    have q := wide_lo d cs j (by simpa using h)
    rw [show 2 * (j + 1) = 2 * j + 1 + 1 from by omega]
    simpa [wideBytes] using q
theorem wide_hi (d : Value) : ∀ (cs : List Int32) (j : Nat), j < cs.length → (wideBytes cs).getD (2 * j + 1) d = .int (hi8 (cs.getD j 0))
  | [], j, h => absurd h (Nat.not_lt_zero j)
  | c :: cs, 0, _ => rfl
  | c :: cs, j + 1, h => by
    have q := wide_hi d cs j (by simpa using h)
    rw [show 2 * (j + 1) + 1 = 2 * j + 1 + 1 + 1 from by omega]
    simpa [wideBytes] using q
theorem low_at (d : Value) (cs : List Int32) (j : Nat) (h : j < cs.length) : (cs.map fun c => Value.int (lo8 c)).getD j d = .int (lo8 (cs.getD j 0)) := by
  simp [List.getD_eq_getElem?_getD, h]
/-- an array of N2 bytes vs codes the chars cs by the coder cd -/
def CodA (cs : List Int32) (cd N2 : Int32) (vs : List Value) : Prop := (cd = 0 ∧ N2 = Int32.ofNat cs.length ∧ vs = (cs.map fun c => Value.int (lo8 c)) ∧ ∀ c ∈ cs, ¬ 255 < c) ∨ (cd = 1 ∧ N2 = Int32.ofNat (2 * cs.length) ∧ vs = wideBytes cs ∧ ∃ c ∈ cs, 255 < c)
theorem CodA.cod {cs : List Int32} {cd N2 : Int32} {vs : List Value} {V : Cell} (h : CodA cs cd N2 vs) (hn : 2 * cs.length < 2 ^ 31) (hs : V.slots.size = N2.toNatClampNeg) (hv : RoadKit.Has V vs (.int 0)) : Cod cd cs.length (fun j => cs.getD j 0) V := by
  rcases h with ⟨rfl, rfl, rfl, h⟩ | ⟨rfl, rfl, rfl, c, hc, hw⟩
  · rw [n32 (by omega)] at hs
    exact Or.inl ⟨rfl, hs, fun j hj => ⟨by rw [hv j (by omega), low_at _ _ _ hj], by
      have e : cs.getD j 0 = cs[j] := by simp [List.getD_eq_getElem?_getD, hj]
      show ¬ 255 < cs.getD j 0
      rw [e]; exact h _ (List.getElem_mem _)⟩⟩
  · rw [n32 (by omega)] at hs
    obtain ⟨j, hj, rfl⟩ := List.getElem_of_mem hc
    exact Or.inr ⟨rfl, hs, fun j hj => ⟨by rw [hv _ (by omega), wide_lo _ _ _ hj], by rw [hv _ (by omega), wide_hi _ _ _ hj]⟩, j, hj, by
      have e : cs.getD j 0 = cs[j] := by simp [List.getD_eq_getElem?_getD, hj]
      show 255 < cs.getD j 0
      rw [e]; exact hw⟩
/-- an object of exactly java/lang/String, its two fields found: as the laws ask it -/
theorem strObj {Z U : State} {a0 : Array Value} {kI : Nat} (wi : (Jvm.Cond.instantiable ST kI).before a0 Z = true) (al : Z.vm.Alike U.vm) {x : Addr} {v0 c0 : Value} (E : RoadKit.Exa Z U.heap x ST) (V : RoadKit.Fld Z U.heap x ST "value" "[B" v0) (C : RoadKit.Fld Z U.heap x ST "coder" "B" c0) :
    ∃ (D : Cell) (fV fC : Field), Blank ST x D U ∧ Found ST "value" "[B" fV U ∧ Found ST "coder" "B" fC U ∧ D.slots[fV.slot]? = some v0 ∧ D.slots[fC.slot]? = some c0 ∧ RoadKit.slotOf Z ST "value" "[B" = fV.slot ∧ RoadKit.slotOf Z ST "coder" "B" = fC.slot := by
  obtain ⟨D, cfV, kV, iV, fV, hD, gV, stV, knV, obV, asV, slV⟩ := V
  obtain ⟨D', cfC, kC, iC, fC, hD', gC, stC, -, -, asC, slC⟩ := C
  cases hD.symm.trans hD'
  obtain ⟨D2, kD, e1, e2, e3, e4, e5⟩ := E
  cases hD.symm.trans e1
  obtain ⟨c2, k2, i1, i2, i3, -⟩ := Cond.instantiable_spec wi
  cases e2.symm.trans i1
  cases e3.symm.trans i2
  obtain ⟨kU, u1, u2⟩ := al.2.2 _ _ e3
  exact ⟨D, fV, fC, ⟨hD, ⟨knV, fun q hq => by rw [hq] at obV; cases obV⟩, by rw [al.findClass]; exact e2, kU, u1, by rw [u2]; exact i3, by rw [u2]; exact e5 i3⟩, ⟨SBG.found_only al ⟨cfV, kV, iV, gV⟩, stV⟩, ⟨SBG.found_only al ⟨cfC, kC, iC, gC⟩, stC⟩, slV, slC, by simp [RoadKit.slotOf, gV], by simp [RoadKit.slotOf, gC]⟩
theorem sta_is {Z U : State} (al : Z.vm.Alike U.vm) {C n d : String} {v : Value} (S : RoadKit.Sta Z U.heap C n d v) : StaticIs U C n d v := by
  obtain ⟨cfS, iS, kS, fS, st, cS, t1, t2, t3, t4, t5, t6, t7⟩ := S
  exact StaticIs.there (s := { Z with heap := U.heap }) ⟨cfS, iS, kS, fS, st, cS, t1, t2, t3, t4, t5, (fun q => by rw [q] at t6; cases t6), t7⟩ al rfl
/-- **length() OF SUCH A STRING** -/
theorem lenW {p : Program} {l : Launch} {e : Env} {R : Room} {s : State} {args : Array Value} {below : List Frame} {len W : Nat} {Z : State} {a0 : Array Value} {h : Heap} (hZ : Z.Warmed39 s.vm) (hw : ∀ d ∈ wordsLen, d.before a0 Z = true) {kI : Nat} (wi : (Jvm.Cond.instantiable ST kI).before a0 Z = true)
    {x t : Addr} {kb : ClassId} {cs : List Int32} {cd N2 z : Int32} {vs : List Value} (E : RoadKit.Exa Z h x ST) (V : RoadKit.Fld Z h x ST "value" "[B" (.ref t)) (C : RoadKit.Fld Z h x ST "coder" "B" (.int cd)) (K : RoadKit.Arv Z h t kb .byte N2 vs (.int 0)) (hc : CodA cs cd N2 vs) (hb : ∀ c ∈ cs, ¬ c < 0 ∧ ¬ (65535 : Int32) < c)
    (S : RoadKit.Sta Z h ST "COMPACT_STRINGS" "Z" (.int z)) (hz : ¬ z = 0) (l2 : cs.length ≤ 4000) (hfr : 2 ≤ R.frames) (hlo : W + 25 ≤ R.locals) :
    Back l R p e below s args (⟨"java/lang/String", "length", "()I"⟩ : MethodName) len W (fun P a => a = #[.ref x] ∧ P.U.heap = h ∧ P.cells + 0 ≤ R.cells ∧ P.slots + 0 ≤ R.slots)
      (fun P _ v B => ∃ L, (v = some (.int (Int32.ofNat cs.length)) ∧ L = [] ∧ B.U.heap = h) ∧ B.locs = P.locs ++ L ∧ B.cells = P.cells + 0 ∧ B.slots = P.slots + 0) := by
  obtain ⟨A, K1, K2, K3, K4, K5, K6⟩ := K
  have hcod := hc.cod (by omega) K3 K5
  intro m meth c P g ig mk a X hg hsize hdg hW hn hp'
  obtain ⟨rfl, rfl, r1, r2⟩ := hp'
  have al : Z.vm.Alike P.U.vm := hZ.alike.trans X.warmed.alike
  obtain ⟨D, fV, fC, hB, F1, F2, g1, g2, -, -⟩ := strObj wi al E V C
  have hx : Txt x t A cd cs.length (fun j => cs.getD j 0) P.U := ⟨⟨_, hB.2.2.1, D, hB.1, rfl, by cases q : D.vm <;> first | rfl | exact absurd q (hB.2.1.2 _)⟩, Has.of hB F1 g1, Has.of hB F2 g2, ⟨K1.1, State.isArrayOf_alike al K1.2.1, K1.2.2, by rcases hcod with ⟨-, q, -⟩ | ⟨-, q, -⟩ <;> omega⟩, hcod, fun j hj => by
    have e : cs.getD j 0 = cs[j] := by simp [List.getD_eq_getElem?_getD, hj]
    show ¬ cs.getD j 0 < 0 ∧ ¬ 65535 < cs.getD j 0
    rw [e]; exact hb _ (List.getElem_mem _)⟩
  obtain ⟨v, B, X', ⟨⟨hv, hh⟩, hl, hk, hs⟩, st⟩ := Len.pays x t A cd cs.length (fun j => cs.getD j 0) z (tabLen_of (movedLen hZ hw)) hfr hlo m meth c P g ig mk _ X hg hsize hdg hW hn ⟨r1, r2, rfl, hx, sta_is al S, hz⟩
  exact ⟨v, B, X', ⟨[], ⟨hv, rfl, hh⟩, hl, hk, hs⟩, st⟩
end StrChars.Road
namespace StrChars
open Jvm Sem ClassFile Op Lib Jvm.Stand Jvm.Free.XT Jvm.Free.ALB Jvm.Free.JM Jvm.Free
open Jvm.Lib.Cold (StaticIs)
namespace Emp
def yN : MethodName := ⟨"java/lang/String", "isEmpty", "()Z"⟩
abbrev yB : ByteArray := jdk_42_method_55_code
theorem d0 : decode yB 0 = .ok (.aload_n 0, 1) := by decide +kernel
theorem d1 : decode yB 1 = .ok (.getfield 9, 3) := by decide +kernel
theorem d4 : decode yB 4 = .ok (.arraylength, 1) := by decide +kernel
theorem d5 : decode yB 5 = .ok (.ifCond (.ne) 7, 3) := by decide +kernel
theorem d8 : decode yB 8 = .ok (.iconst 1, 1) := by decide +kernel
theorem d9 : decode yB 9 = .ok (.goto 4, 3) := by decide +kernel
theorem d12 : decode yB 12 = .ok (.iconst 0, 1) := by decide +kernel
theorem d13 : decode yB 13 = .ok (.ireturn, 1) := by decide +kernel
def site : List Cond := [.fieldLink "java/lang/String" 9 "java/lang/String" "value" "[B"]
def tab : Cond := tabOf yN yB 1 (some .boolean) site
def P (x t : Addr) (V : Cell) (cd : Int32) (n : Nat) (f : Nat → Int32) (args : Array Value) (s : State) : Prop := args = #[.ref x] ∧ Txt x t V cd n f s
def E (n : Nat) (r : Option Value) (s u : State) : Prop := XT.PureE (some (.int (if n = 0 then 1 else 0))) r s u
/-- isEmpty() of a String of n chars -/
theorem law (l : Launch) (x t : Addr) (V : Cell) (cd : Int32) (n : Nat) (f : Nat → Int32) : Law l yN 1 0 0 0 yB 1 (some .boolean) site (P x t V cd n f) (E n) [] 0 0 := by
  refine Law.of_walk (plainFor_of_name (by decide +kernel)) (by decide +kernel) (by decide +kernel) (by decide) (fun _ _ h => by rw [h.1]; rfl) (fun _ U U' hal hh h => ⟨h.1, h.2.mv hal hh⟩) (fun r U U' V V' h1 hal h2 h => XT.PureE.mv r U U' V V' h1 hal h2 h) ?_
  intro p e s m args below meth c s₁ X0 hexec hbytes hml hret hlk hnm hown hh0 W hP
  obtain ⟨rfl, hx⟩ := hP
  have v31 := hx.2.2.2.1.2.2.2
  have c1 : Steps p.tables e below (s₁.setTop (entryFrame m #[.ref x] 1)) (s₁.setTop (mkF m 1 #[.val (.ref x)] [.ref x])) := Steps.trans (entry rfl) (by
    show Steps p.tables e below (s₁.setTop (mkF m 0 #[.val (.ref x)] [])) _
    refine XS.aloadN X0.here hexec rfl (hb hbytes d0) rfl rfl ?_
    exact Steps.refl _)
  obtain ⟨T2, X2, q2, st2⟩ := X0.hget hexec hown (wk W (.fieldLink "java/lang/String" 9 "java/lang/String" "value" "[B")) (hx.mv X0.warmed.alike hh0).2.1 (g := (mkF m 1 #[.val (.ref x)] [.ref x])) rfl (rest := []) rfl (hb hbytes d1)
  have hh2 := q2.trans hh0
  have hx2 := hx.mv X2.warmed.alike hh2
  have c3 : Steps p.tables e below (s₁.setTop (entryFrame m #[.ref x] 1)) (T2.setTop (mkF m 5 #[.val (.ref x)] [.int (Int32.ofNat V.slots.size)])) := (c1.trans (st2 _ (Steps.refl _))).trans (by
    refine X2.alen hexec hx2.2.2.2.1 rfl rfl (hb hbytes d4) ?_
    exact Steps.refl _)
  have hz : V.slots.size = 0 ↔ n = 0 := by
    rcases hx.2.2.2.2.1 with ⟨-, q, -⟩ | ⟨-, q, -⟩ <;> omega
  by_cases h0 : n = 0
  · have c4 : Steps p.tables e below (s₁.setTop (entryFrame m #[.ref x] 1)) (T2.setTop (mkF m 13 #[.val (.ref x)] [.int 1])) := c3.trans (by
      refine XS.ifNo X2.here hexec rfl (hb hbytes d5) rfl (i0_ne_f (by rw [hz.mpr h0]; rfl)) ?_
      refine iconstV X2.here hexec rfl 1 (hb hbytes d8) (by decide) ?_
      refine XS.goto X2.here hexec rfl (pc0 := 9) rfl (hb hbytes d9) (by decide) rfl ?_
      exact Steps.refl _)
    exact ⟨T2, some (.int 1), _, _, _, X2, rfl, rfl, rfl, (fun h => by cases h), ⟨by rw [if_pos h0], hh2⟩, fun fs hl => c4.trans (X2.ireturnOut hexec hret rfl (Or.inr (Or.inl rfl)) (hb hbytes d13) hl)⟩
  · have c4 : Steps p.tables e below (s₁.setTop (entryFrame m #[.ref x] 1)) (T2.setTop (mkF m 13 #[.val (.ref x)] [.int 0])) := c3.trans (by
      refine XS.ifYes X2.here hexec rfl (pc0 := 5) rfl (hb hbytes d5) rfl (i0_ne_t (nz32 v31 (by omega))) (by decide) rfl ?_
      refine iconstV X2.here hexec rfl 0 (hb hbytes d12) (by decide) ?_
      exact Steps.refl _)
    exact ⟨T2, some (.int 0), _, _, _, X2, rfl, rfl, rfl, (fun h => by cases h), ⟨by rw [if_neg h0], hh2⟩, fun fs hl => c4.trans (X2.ireturnOut hexec hret rfl (Or.inr (Or.inl rfl)) (hb hbytes d13) hl)⟩
theorem pays {l : Launch} {R : Room} {p : Program} {e : Env} {below : List Frame} {s : State} {sargs : Array Value} {len W : Nat} (x t : Addr) (V : Cell) (cd : Int32) (n : Nat) (f : Nat → Int32) (htab : tab.before sargs s = true) (hfr : 1 ≤ R.frames) (hlo : W + 12 ≤ R.locals) :
    Back l R p e below s sargs yN len W (fun A₁ a₁ => A₁.cells + 0 ≤ R.cells ∧ A₁.slots + 0 ≤ R.slots ∧ P x t V cd n f a₁ A₁.U) (fun A₁ _ v₁ B₁ => E n v₁ A₁.U B₁.U ∧ B₁.locs = A₁.locs ++ [] ∧ B₁.cells = A₁.cells + 0 ∧ B₁.slots = A₁.slots + 0) :=
  (law l x t V cd n f).pays htab hfr (by omega)
end Emp
end StrChars
namespace StrChars.Road
open Jvm Sem ClassFile Op Lib Jvm.Stand Jvm.Free Jvm.Free.XT
open Jvm.Lib.Cold (StaticIs)
/-- the words of String.isEmpty() -/
abbrev wordsEmp : List Jvm.Cond := [.code Emp.yN Emp.yB 1 (some .boolean), .initialized ST, .fieldLink ST 9 ST "value" "[B"]
theorem tabEmp_of {a : Array Value} {s : State} (h : ∀ w ∈ wordsEmp, w.before a s = true) : Emp.tab.before a s = true := unparts (wk h (.code Emp.yN Emp.yB 1 (some .boolean))) (wks h (.initialized Emp.yN.cls :: Emp.site))
theorem movedEmp {Z s : State} {a0 args : Array Value} (hZ : Z.Warmed39 s.vm) (hw : ∀ d ∈ wordsEmp, d.before a0 Z = true) : ∀ d ∈ wordsEmp, d.before args s = true := fun d hd => by
  have t : ∀ d ∈ wordsEmp, (d.onTables && d.keepsFace) = true := by decide +kernel
  exact RoadKit.mv hZ (hw d hd) (t d hd)
/-- the road's facts of a String, as the laws ask it -/
theorem txt_of {Z U : State} {a0 : Array Value} {kI : Nat} (wi : (Jvm.Cond.instantiable ST kI).before a0 Z = true) (al : Z.vm.Alike U.vm) {x t : Addr} {kb : ClassId} {cs : List Int32} {cd N2 : Int32} {vs : List Value} (E : RoadKit.Exa Z U.heap x ST) (V : RoadKit.Fld Z U.heap x ST "value" "[B" (.ref t)) (C : RoadKit.Fld Z U.heap x ST "coder" "B" (.int cd)) (K : RoadKit.Arv Z U.heap t kb .byte N2 vs (.int 0)) (hc : CodA cs cd N2 vs) (hb : ∀ c ∈ cs, ¬ c < 0 ∧ ¬ (65535 : Int32) < c) (l2 : cs.length ≤ 4000) :
    ∃ A, Txt x t A cd cs.length (fun j => cs.getD j 0) U := by
  obtain ⟨A, K1, K2, K3, K4, K5, K6⟩ := K
  have hcod := hc.cod (by omega) K3 K5
  obtain ⟨D, fV, fC, hB, F1, F2, g1, g2, -, -⟩ := strObj wi al E V C
  exact ⟨A, ⟨_, hB.2.2.1, D, hB.1, rfl, by cases q : D.vm <;> first | rfl | exact absurd q (hB.2.1.2 _)⟩, Has.of hB F1 g1, Has.of hB F2 g2, ⟨K1.1, State.isArrayOf_alike al K1.2.1, K1.2.2, by rcases hcod with ⟨-, q, -⟩ | ⟨-, q, -⟩ <;> omega⟩, hcod, fun j hj => by
    have e : cs.getD j 0 = cs[j] := by simp [List.getD_eq_getElem?_getD, hj]
    show ¬ cs.getD j 0 < 0 ∧ ¬ 65535 < cs.getD j 0
    rw [e]; exact hb _ (List.getElem_mem _)⟩
/-- **isEmpty() OF SUCH A STRING** -/
theorem empW {p : Program} {l : Launch} {e : Env} {R : Room} {s : State} {args : Array Value} {below : List Frame} {len W : Nat} {Z : State} {a0 : Array Value} {h : Heap} (hZ : Z.Warmed39 s.vm) (hw : ∀ d ∈ wordsEmp, d.before a0 Z = true) {kI : Nat} (wi : (Jvm.Cond.instantiable ST kI).before a0 Z = true)
    {x t : Addr} {kb : ClassId} {cs : List Int32} {cd N2 : Int32} {vs : List Value} (E : RoadKit.Exa Z h x ST) (V : RoadKit.Fld Z h x ST "value" "[B" (.ref t)) (C : RoadKit.Fld Z h x ST "coder" "B" (.int cd)) (K : RoadKit.Arv Z h t kb .byte N2 vs (.int 0)) (hc : CodA cs cd N2 vs) (hb : ∀ c ∈ cs, ¬ c < 0 ∧ ¬ (65535 : Int32) < c) (l2 : cs.length ≤ 4000) (hfr : 1 ≤ R.frames) (hlo : W + 12 ≤ R.locals) :
    Back l R p e below s args (⟨"java/lang/String", "isEmpty", "()Z"⟩ : MethodName) len W (fun P a => a = #[.ref x] ∧ P.U.heap = h ∧ P.cells + 0 ≤ R.cells ∧ P.slots + 0 ≤ R.slots)
      (fun P _ v B => ∃ L, (v = some (.int (if cs.length = 0 then 1 else 0)) ∧ L = [] ∧ B.U.heap = h) ∧ B.locs = P.locs ++ L ∧ B.cells = P.cells + 0 ∧ B.slots = P.slots + 0) := by
  intro m meth c P g ig mk a X hg hsize hdg hW hn hp'
  obtain ⟨rfl, rfl, r1, r2⟩ := hp'
  have al : Z.vm.Alike P.U.vm := hZ.alike.trans X.warmed.alike
  obtain ⟨A, hx⟩ := txt_of wi al E V C K hc hb l2
  obtain ⟨v, B, X', ⟨⟨hv, hh⟩, hl, hk, hs⟩, st⟩ := Emp.pays x t A cd cs.length (fun j => cs.getD j 0) (tabEmp_of (movedEmp hZ hw)) hfr hlo m meth c P g ig mk _ X hg hsize hdg hW hn ⟨r1, r2, rfl, hx⟩
  exact ⟨v, B, X', ⟨[], ⟨hv, rfl, hh⟩, hl, hk, hs⟩, st⟩
end StrChars.Road
namespace StrChars
open Jvm Sem ClassFile Op Lib Jvm.Stand Jvm.Free.XT Jvm.Free.ALB Jvm.Free.JM Jvm.Free
open Jvm.Lib.Cold (StaticIs)
namespace ChN
def yN : MethodName := ⟨"java/lang/String", "charAt", "(I)C"⟩
abbrev yB : ByteArray := jdk_42_method_56_code
theorem d0 : decode yB 0 = .ok (.aload_n 0, 1) := by decide +kernel
theorem d1 : decode yB 1 = .ok (.invokevirtual 492, 3) := by decide +kernel
theorem d4 : decode yB 4 = .ok (.ifCond (.eq) 12, 3) := by decide +kernel
theorem d7 : decode yB 7 = .ok (.aload_n 0, 1) := by decide +kernel
theorem d8 : decode yB 8 = .ok (.getfield 9, 3) := by decide +kernel
theorem d11 : decode yB 11 = .ok (.iload_n 1, 1) := by decide +kernel
theorem d12 : decode yB 12 = .ok (.invokestatic 495, 3) := by decide +kernel
theorem d15 : decode yB 15 = .ok (.ireturn, 1) := by decide +kernel
def site : List Cond := [.fieldLink "java/lang/String" 9 "java/lang/String" "value" "[B", IsL.tab, LChA.tab] ++ virtW "java/lang/String" 492 "java/lang/String" IsL.yN IsL.yN ++ staticW "java/lang/String" 495 LChA.yN
def tab : Cond := tabOf yN yB 2 (some .char) site
def P (x t : Addr) (V : Cell) (n : Nat) (f : Nat → Int32) (z : Int32) (fm : Value) (i : Nat) (args : Array Value) (s : State) : Prop := args = #[.ref x, .int (Int32.ofNat i)] ∧ Txt x t V 0 n f s ∧ i < n ∧ StaticIs s "java/lang/String" "COMPACT_STRINGS" "Z" (.int z) ∧ ¬ z = 0 ∧ StaticIs s "jdk/internal/util/Preconditions" "SIOOBE_FORMATTER" "Ljava/util/function/BiFunction;" fm ∧ fm.isRef = true
def E (f : Nat → Int32) (i : Nat) (r : Option Value) (s u : State) : Prop := XT.PureE (some (.int (f i))) r s u
/-- charAt(i) of a Latin-1 String of n chars, i < n: f i -/
theorem law (l : Launch) (x t : Addr) (V : Cell) (n : Nat) (f : Nat → Int32) (z : Int32) (fm : Value) (i : Nat) : Law l yN 2 1 3 40 yB 2 (some .char) site (P x t V n f z fm i) (E f i) [] 0 0 := by
  refine Law.of_walk (plainFor_of_name (by decide +kernel)) (by decide +kernel) (by decide +kernel) (by decide) (fun _ _ h => by rw [h.1]; rfl) (fun _ U U' hal hh h => ⟨h.1, h.2.1.mv hal hh, h.2.2.1, h.2.2.2.1.there hal hh, h.2.2.2.2.1, h.2.2.2.2.2.1.there hal hh, h.2.2.2.2.2.2⟩) (fun r U U' V V' h1 hal h2 h => XT.PureE.mv r U U' V V' h1 hal h2 h) ?_
  intro p e s m args below meth c s₁ X0 hexec hbytes hml hret hlk hnm hown hh0 W hP
  obtain ⟨rfl, hx, hi, s1, hz, s3, rf⟩ := hP
  have v31 := hx.2.2.2.1.2.2.2
  have hr := hx.2.2.2.2.2 i hi
  have hx0 := hx.mv X0.warmed.alike hh0
  have c1 : Steps p.tables e below (s₁.setTop (entryFrame m #[.ref x, .int (Int32.ofNat i)] 2)) (s₁.setTop (mkF m 1 #[.val (.ref x), .val (.int (Int32.ofNat i))] [.ref x])) := Steps.trans (entry rfl) (by
    show Steps p.tables e below (s₁.setTop (mkF m 0 #[.val (.ref x), .val (.int (Int32.ofNat i))] [])) _
    refine XS.aloadN X0.here hexec rfl (hb hbytes d0) rfl rfl ?_
    exact Steps.refl _)
  obtain ⟨v2, T2, X2, E2, g2⟩ := X0.callV hexec (IsL.law l x 0 z) hown (wks W (virtW "java/lang/String" 492 "java/lang/String" IsL.yN IsL.yN)) rfl (by decide) (wk W IsL.tab) (W := 0) (Nat.le_of_ble_eq_true rfl) (Nat.le_of_ble_eq_true rfl) (Nat.le_refl _) (Nat.le_refl _) (hx0.1.fc X0.warmed.alike) hx0.1.is (g := (mkF m 1 #[.val (.ref x), .val (.int (Int32.ofNat i))] [.ref x])) rfl (by rw [hml]; rfl) c1 (argsL := []) (rest := []) rfl rfl (by show 2 * 0 + 0 ≤ _; decide) (hb hbytes d1) (⟨rfl, hx0.2.2.1, hx.2.2.2.2.1.cd, s1.there X0.warmed.alike hh0, hz⟩)
  obtain ⟨rfl, q2⟩ := E2
  have hh2 := q2.trans hh0
  have hx2 := hx.mv X2.warmed.alike hh2
  obtain ⟨-, k1, k2⟩ | ⟨k0, -⟩ := hx.2.2.2.2.1
  · have c3 : Steps p.tables e below (s₁.setTop (entryFrame m #[.ref x, .int (Int32.ofNat i)] 2)) (T2.setTop (mkF m 8 #[.val (.ref x), .val (.int (Int32.ofNat i))] [.ref x])) := Steps.trans g2 (by
      refine XS.ifNo X2.here hexec rfl (hb hbytes d4) rfl (i0_eq_f (by decide)) ?_
      refine XS.aloadN X2.here hexec rfl (hb hbytes d7) rfl rfl ?_
      exact Steps.refl _)
    obtain ⟨T4, X4, q4, st4⟩ := X2.hget hexec hown (wk W (.fieldLink "java/lang/String" 9 "java/lang/String" "value" "[B")) hx2.2.1 (g := (mkF m 8 #[.val (.ref x), .val (.int (Int32.ofNat i))] [.ref x])) rfl (rest := []) rfl (hb hbytes d8)
    have hh4 := q4.trans hh2
    have c5 : Steps p.tables e below (s₁.setTop (entryFrame m #[.ref x, .int (Int32.ofNat i)] 2)) (T4.setTop (mkF m 12 #[.val (.ref x), .val (.int (Int32.ofNat i))] [.int (Int32.ofNat i), .ref t])) := (c3.trans (st4 _ (Steps.refl _))).trans (by
      refine XS.iloadN X4.here hexec rfl (hb hbytes d11) rfl ?_
      exact Steps.refl _)
    obtain ⟨v6, T6, X6, E6, g6⟩ := X4.callS hexec (LChA.law l t V i (lo8 (f i)) fm) hown (wks W (staticW "java/lang/String" 495 LChA.yN)) (wk W LChA.tab) (W := 0) (Nat.le_of_ble_eq_true rfl) (Nat.le_of_ble_eq_true rfl) (Nat.le_refl _) (Nat.le_refl _) (g := (mkF m 12 #[.val (.ref x), .val (.int (Int32.ofNat i))] [.int (Int32.ofNat i), .ref t])) rfl (by rw [hml]; rfl) c5 (argsL := [.ref t, .int (Int32.ofNat i)]) (rest := []) rfl rfl (by show 2 * 0 + 0 ≤ _; decide) (hb hbytes d12) (⟨rfl, hx.2.2.2.1.mv X4.warmed.alike hh4, (k2 i hi).1, s3.there X4.warmed.alike hh4, rf⟩)
    obtain ⟨rfl, q6⟩ := E6
    rw [chr8_lo8 hr.1 (k2 i hi).2] at g6
    exact ⟨T6, some (.int (f i)), _, _, _, X6, rfl, rfl, rfl, (fun h => by cases h), ⟨rfl, q6.trans hh4⟩, fun fs hl => Steps.trans g6 (X6.ireturnOut hexec hret (narrow_ch hr.1 hr.2) (Or.inr (Or.inr (Or.inr (Or.inl rfl)))) (hb hbytes d15) hl)⟩
  · exact absurd k0 (by decide)
theorem pays {l : Launch} {R : Room} {p : Program} {e : Env} {below : List Frame} {s : State} {sargs : Array Value} {len W : Nat} (x t : Addr) (V : Cell) (n : Nat) (f : Nat → Int32) (z : Int32) (fm : Value) (i : Nat) (htab : tab.before sargs s = true) (hfr : 4 ≤ R.frames) (hlo : W + 53 ≤ R.locals) :
    Back l R p e below s sargs yN len W (fun A₁ a₁ => A₁.cells + 0 ≤ R.cells ∧ A₁.slots + 0 ≤ R.slots ∧ P x t V n f z fm i a₁ A₁.U) (fun A₁ _ v₁ B₁ => E f i v₁ A₁.U B₁.U ∧ B₁.locs = A₁.locs ++ [] ∧ B₁.cells = A₁.cells + 0 ∧ B₁.slots = A₁.slots + 0) :=
  (law l x t V n f z fm i).pays htab hfr (by omega)
end ChN
end StrChars
namespace StrChars.Road
open Jvm Sem ClassFile Op Lib Jvm.Stand Jvm.Free Jvm.Free.XT
open Jvm.Lib.Cold (StaticIs)
/-- the words of String.charAt(int), the Latin-1 road alone -/
abbrev wordsChN : List Jvm.Cond := [.code ChN.yN ChN.yB 2 (some .char), .initialized ST, .fieldLink ST 9 ST "value" "[B", .fieldLink ST 38 ST "COMPACT_STRINGS" "Z", .fieldLink ST 15 ST "coder" "B", .code IsL.yN IsL.yB 1 (some .boolean), .methodLink ST 492 IsL.yN, .declares IsL.yN, .selects ST IsL.yN IsL.yN, .instanceMethod IsL.yN,
  .methodLink ST 495 LChA.yN, .static LChA.yN, .code LChA.yN LChA.yB 2 (some .char), .initialized "java/lang/StringLatin1", .methodLink "java/lang/StringLatin1" 9 JO.Str_checkIndex.yN, .static JO.Str_checkIndex.yN, .code JO.Str_checkIndex.yN JO.Str_checkIndex.yB 2 none,
  .fieldLink ST 1053 "jdk/internal/util/Preconditions" "SIOOBE_FORMATTER" "Ljava/util/function/BiFunction;", .methodLink ST 1059 JC.PreCheck.yN, .static JC.PreCheck.yN, .code JC.PreCheck.yN JC.PreCheck.yB 3 (some .int), .initialized "jdk/internal/util/Preconditions"]
theorem tabChN_of {a : Array Value} {s : State} (h : ∀ w ∈ wordsChN, w.before a s = true) : ChN.tab.before a s = true := by
  have hp : JC.PreCheck.tab.before a s = true := unparts (wk h (.code JC.PreCheck.yN JC.PreCheck.yB 3 (some .int))) (wks h (.initialized JC.PreCheck.yN.cls :: JC.PreCheck.site))
  have qk := consq hp h
  have hk : JO.Str_checkIndex.tab.before a s = true := unparts (wk qk (.code JO.Str_checkIndex.yN JO.Str_checkIndex.yB 2 none)) (wks qk (.initialized JO.Str_checkIndex.yN.cls :: JO.Str_checkIndex.site))
  have ql := consq hk h
  have hl : LChA.tab.before a s = true := unparts (wk ql (.code LChA.yN LChA.yB 2 (some .char))) (wks ql (.initialized LChA.yN.cls :: LChA.site))
  have hi : IsL.tab.before a s = true := unparts (wk h (.code IsL.yN IsL.yB 1 (some .boolean))) (wks h (.initialized IsL.yN.cls :: IsL.site))
  have q := consq hi (consq hl h)
  exact unparts (wk q (.code ChN.yN ChN.yB 2 (some .char))) (wks q (.initialized ChN.yN.cls :: ChN.site))
theorem movedChN {Z s : State} {a0 args : Array Value} (hZ : Z.Warmed39 s.vm) (hw : ∀ d ∈ wordsChN, d.before a0 Z = true) : ∀ d ∈ wordsChN, d.before args s = true := fun d hd => by
  have t : ∀ d ∈ wordsChN, (d.onTables && d.keepsFace) = true := by decide +kernel
  exact RoadKit.mv hZ (hw d hd) (t d hd)
/-- **charAt(i) OF A LATIN-1 STRING**, i < n: the char -/
theorem chN {p : Program} {l : Launch} {e : Env} {R : Room} {s : State} {args : Array Value} {below : List Frame} {len W : Nat} {Z : State} {a0 : Array Value} {h : Heap} (hZ : Z.Warmed39 s.vm) (hw : ∀ d ∈ wordsChN, d.before a0 Z = true) {kI : Nat} (wi : (Jvm.Cond.instantiable ST kI).before a0 Z = true)
    {x t : Addr} {kb : ClassId} {cs : List Int32} {N2 z : Int32} {vs : List Value} {fm : Value} {i : Nat} {j : Int32} (E : RoadKit.Exa Z h x ST) (V : RoadKit.Fld Z h x ST "value" "[B" (.ref t)) (C : RoadKit.Fld Z h x ST "coder" "B" (.int 0)) (K : RoadKit.Arv Z h t kb .byte N2 vs (.int 0)) (hc : CodA cs 0 N2 vs) (hb : ∀ c ∈ cs, ¬ c < 0 ∧ ¬ (65535 : Int32) < c)
    (S : RoadKit.Sta Z h ST "COMPACT_STRINGS" "Z" (.int z)) (hz : ¬ z = 0) (F : RoadKit.Sta Z h "jdk/internal/util/Preconditions" "SIOOBE_FORMATTER" "Ljava/util/function/BiFunction;" fm) (rf : fm.isRef = true) (l2 : cs.length ≤ 4000) (hi : i < cs.length) (hj : j = Int32.ofNat i) (hfr : 4 ≤ R.frames) (hlo : W + 53 ≤ R.locals) :
    Back l R p e below s args (⟨"java/lang/String", "charAt", "(I)C"⟩ : MethodName) len W (fun P a => a = #[.ref x, .int j] ∧ P.U.heap = h ∧ P.cells + 0 ≤ R.cells ∧ P.slots + 0 ≤ R.slots)
      (fun P _ v B => ∃ L, (v = some (.int (cs.getD i 0)) ∧ L = [] ∧ B.U.heap = h) ∧ B.locs = P.locs ++ L ∧ B.cells = P.cells + 0 ∧ B.slots = P.slots + 0) := by
  subst hj
  intro m meth c P g ig mk a X hg hsize hdg hW hn hp'
  obtain ⟨rfl, rfl, r1, r2⟩ := hp'
  have al : Z.vm.Alike P.U.vm := hZ.alike.trans X.warmed.alike
  obtain ⟨A, hx⟩ := txt_of wi al E V C K hc hb l2
  obtain ⟨v, B, X', ⟨⟨hv, hh⟩, hl, hk, hs⟩, st⟩ := ChN.pays x t A cs.length (fun j => cs.getD j 0) z fm i (tabChN_of (movedChN hZ hw)) hfr hlo m meth c P g ig mk _ X hg hsize hdg hW hn ⟨r1, r2, rfl, hx, hi, sta_is al S, hz, sta_is al F, rf⟩
  exact ⟨v, B, X', ⟨[], ⟨hv, rfl, hh⟩, hl, hk, hs⟩, st⟩
/-- what backV says of its String, as the contracts of this text ask it: cs's low bytes, coder 0 -/
theorem codOf {cs : List Int32} {n : Nat} (hn : cs.length = n) (hb : ∀ c ∈ cs, ¬ 255 < c) : CodA cs 0 (Int32.ofNat n) ((cs.map lo8).map Value.int) := Or.inl ⟨rfl, by rw [hn], by simp [List.map_map, Function.comp_def], hb⟩
end StrChars.Road
end Jvm.Pilot.@@N@@
namespace Jvm.Pilot.@@N@@
open Jvm Jvm.ClassFile Sem Op Lib Jvm.Free Jvm.Stand Jvm.LawKit Jvm.RoadKit Bundle Jvm.Pilot.@@N@@.Jvm.D
theorem wq {Z : State} {a0 : Array Value} {d : Jvm.Cond} (hw : ∀ d ∈ tables_1, d.before a0 Z = true) (i : Nat) (h : tables_1[i]? = some d) : d.before a0 Z = true := hw _ (List.mem_of_getElem? h)
def StrA (Z : State) (h : Heap) (x : Addr) (cs : List Int32) : Prop := ∃ (t : Addr) (kb : ClassId) (cd N2 : Int32) (vs : List Value), Exa Z h x "java/lang/String" ∧ Fld Z h x "java/lang/String" "value" "[B" (.ref t) ∧ Fld Z h x "java/lang/String" "coder" "B" (.int cd) ∧ Arv Z h t kb .byte N2 vs (.int 0) ∧ StrChars.Road.CodA cs cd N2 vs ∧ (∀ c ∈ cs, ¬ c < 0 ∧ ¬ (65535 : Int32) < c)
def Cmp (Z : State) (h : Heap) : Prop := ∃ z : Int32, Sta Z h "java/lang/String" "COMPACT_STRINGS" "Z" (.int z) ∧ ¬ z = 0
theorem Cmp.ext {Z : State} {h h' : Heap} (F : Cmp Z h) (E : Ext h h') : Cmp Z h' := by obtain ⟨z, S, q⟩ := F; exact ⟨z, S.ext E, q⟩
theorem StrA.ext {Z : State} {h h' : Heap} {x : Addr} {cs : List Int32} (F : StrA Z h x cs) (E : Ext h h') : StrA Z h' x cs := by
  obtain ⟨t, kb, cd, N2, vs, a1, a2, a3, a4, a5, a6⟩ := F
  exact ⟨t, kb, cd, N2, vs, a1.ext E, a2.ext E, a3.ext E, a4.ext E, a5, a6⟩
theorem StrA.exa {Z : State} {h : Heap} {x : Addr} {cs : List Int32} (F : StrA Z h x cs) : Exa Z h x "java/lang/String" := by obtain ⟨t, kb, cd, N2, vs, a1, -⟩ := F; exact a1
theorem up16 (cs : List Int32) (h : ∀ c ∈ cs, ¬ c < 0 ∧ ¬ (255 : Int32) < c) : ∀ c ∈ cs, ¬ c < 0 ∧ ¬ (65535 : Int32) < c := fun c hc => ⟨(h c hc).1, fun q => (h c hc).2 (by rw [Int32.lt_iff_toInt_lt] at q ⊢; have e1 : (65535 : Int32).toInt = 65535 := rfl; have e2 : (255 : Int32).toInt = 255 := rfl; omega)⟩
theorem and255_nat (x : Int32) : ∃ k : Fin 256, (x &&& (255 : Int32)) = Int32.ofNat k.val := by
  have h : (x &&& 255).toBitVec.toNat < 256 := by
    simp only [Int32.toBitVec_and, BitVec.toNat_and]
    exact Nat.lt_succ_of_le Nat.and_le_right
  refine ⟨⟨_, h⟩, ?_⟩
  apply Int32.toBitVec_inj.mp
  show _ = BitVec.ofNat 32 _
  rw [BitVec.ofNat_toNat]; simp
def C8 (c : Int32) : Prop := (¬ c < 0 ∧ ¬ (255 : Int32) < c) ∧ nar .char c = c
theorem c8_and (x : Int32) : C8 ((x &&& (255 : Int32)).toUInt32.toUInt16.toUInt32.toInt32) := by
  obtain ⟨k, e⟩ := and255_nat x
  rw [e]
  have t : ∀ k : Fin 256, (¬ ((Int32.ofNat k.val).toUInt32.toUInt16.toUInt32.toInt32) < 0 ∧ ¬ (255 : Int32) < ((Int32.ofNat k.val).toUInt32.toUInt16.toUInt32.toInt32)) ∧ nar .char ((Int32.ofNat k.val).toUInt32.toUInt16.toUInt32.toInt32) = ((Int32.ofNat k.val).toUInt32.toUInt16.toUInt32.toInt32) := by decide +kernel
  exact t k
theorem c8_nil : ∀ c ∈ ([] : List Int32), ¬ c < 0 ∧ ¬ (255 : Int32) < c := fun _ q => nomatch q
theorem c8_cons {c : Int32} {L : List Int32} (q : ¬ c < 0 ∧ ¬ (255 : Int32) < c) (r : ∀ c ∈ L, ¬ c < 0 ∧ ¬ (255 : Int32) < c) : ∀ x ∈ c :: L, ¬ x < 0 ∧ ¬ (255 : Int32) < x := fun x z => (List.mem_cons.mp z).elim (fun u => u ▸ q) (r x)
theorem strOf {Z : State} {h : Heap} {x t : Addr} {kb : ClassId} {cs : List Int32} {n : Nat} {N : Int32} (hn : cs.length = n) (hN : N = Int32.ofNat n) (hp : ∀ c ∈ cs, ¬ c < 0 ∧ ¬ (255 : Int32) < c) (E : Exa Z h x "java/lang/String") (V : Fld Z h x "java/lang/String" "value" "[B" (.ref t)) (C : Fld Z h x "java/lang/String" "coder" "B" (.int 0)) (K : Arv Z h t kb .byte N ((cs.map (fun c => c.toInt8.toInt32)).map Value.int) (.int 0)) : StrA Z h x cs := by
  subst hN
  exact ⟨t, kb, 0, _, _, E, V, C, K, StrChars.Road.codOf hn (fun c hc => (hp c hc).2), up16 cs hp⟩
theorem ws_new : ∀ d ∈ StrChars.Road.words, d ∈ tables_1 := by decide +kernel
theorem backS {p : Program} {l : Launch} {e : Env} {R : Room} {s : State} {args : Array Value} {below : List Frame} {len W : Nat} {Z : State} {a0 : Array Value} {h : Heap} (hZ : Z.Warmed39 s.vm) (hw : ∀ d ∈ tables_1, d.before a0 Z = true) {x b : Addr} {kC : ClassId} {cs : List Int32} {N : Int32} {n n0 : Nat} (hx0 : n0 ≤ x) (hh0 : n0 ≤ h.size) (E : Exa Z h x "java/lang/String") (V : Fld Z h x "java/lang/String" "value" "[B" .null) (C : Fld Z h x "java/lang/String" "coder" "B" (.int 0)) (K : Arv Z h b kC .char N (cs.map Value.int) (.int 0)) (CS : Cmp Z h) (hn : cs.length = n) (hN : N = Int32.ofNat n) (l0 : 0 < n) (l2 : n ≤ 4000) (hp : ∀ c ∈ cs, ¬ c < 0 ∧ ¬ (255 : Int32) < c) (hfr : 4 ≤ R.frames) (hlo : W + 65 ≤ R.locals) :
    Back l R p e below s args (⟨"java/lang/String", "<init>", "([C)V"⟩ : MethodName) len W (fun P a => a = #[.ref x, .ref b] ∧ P.U.heap = h ∧ P.cells + 1 ≤ R.cells ∧ P.slots + n ≤ R.slots)
      (fun P _ v B => ∃ L, (v = none ∧ Fr n0 L ∧ Keep h B.U.heap [x] ∧ StrA Z B.U.heap x cs) ∧ B.locs = P.locs ++ L ∧ B.cells = P.cells + 1 ∧ B.slots = P.slots + n) := by
  obtain ⟨z, S, hz⟩ := CS
  refine Back.mono (StrChars.Road.backV hZ (fun d hd => hw d (ws_new d hd)) (kI := 4) (wq hw 2 rfl) hx0 hh0 E V C K S hz hn hN l0 l2 hp rfl hfr hlo) (fun _ _ hp => hp) (fun P a v B _ hq => ?_)
  obtain ⟨L, ⟨q1, q2, q3, q4, q5, t, kb, -, -, -, q6, q7⟩, hl⟩ := hq
  exact ⟨L, ⟨q1, q2, q3, strOf hn hN hp q4 q6 q5 q7⟩, hl⟩
theorem ws_len : ∀ d ∈ StrChars.Road.wordsLen, d ∈ tables_1 := by decide +kernel
theorem lenS {p : Program} {l : Launch} {e : Env} {R : Room} {s : State} {args : Array Value} {below : List Frame} {len W : Nat} {Z : State} {a0 : Array Value} {h : Heap} (hZ : Z.Warmed39 s.vm) (hw : ∀ d ∈ tables_1, d.before a0 Z = true) {x : Addr} {cs : List Int32} (A : StrA Z h x cs) (CS : Cmp Z h) (l1 : cs.length ≤ 4000) (hfr : 2 ≤ R.frames) (hlo : W + 25 ≤ R.locals) :
    Back l R p e below s args (⟨"java/lang/String", "length", "()I"⟩ : MethodName) len W (fun P a => a = #[.ref x] ∧ P.U.heap = h ∧ P.cells + 0 ≤ R.cells ∧ P.slots + 0 ≤ R.slots)
      (fun P _ v B => ∃ L, (v = some (.int (Int32.ofNat cs.length)) ∧ L = [] ∧ B.U.heap = h) ∧ B.locs = P.locs ++ L ∧ B.cells = P.cells + 0 ∧ B.slots = P.slots + 0) := by
  obtain ⟨z, S, hz⟩ := CS
  obtain ⟨t, kb, cd, N2, vs, a1, a2, a3, a4, a5, a6⟩ := A
  exact StrChars.Road.lenW hZ (fun d hd => hw d (ws_len d hd)) (kI := 4) (wq hw 2 rfl) a1 a2 a3 a4 a5 a6 S hz l1 hfr hlo
theorem StrA.bd {Z : State} {h : Heap} {x : Addr} {cs : List Int32} (F : StrA Z h x cs) : ∀ c ∈ cs, ¬ c < 0 ∧ ¬ (65535 : Int32) < c := by obtain ⟨t, kb, cd, N2, vs, -, -, -, -, -, q⟩ := F; exact q
theorem ws_emp : ∀ d ∈ StrChars.Road.wordsEmp, d ∈ tables_1 := by decide +kernel
theorem empS {p : Program} {l : Launch} {e : Env} {R : Room} {s : State} {args : Array Value} {below : List Frame} {len W : Nat} {Z : State} {a0 : Array Value} {h : Heap} (hZ : Z.Warmed39 s.vm) (hw : ∀ d ∈ tables_1, d.before a0 Z = true) {x : Addr} {cs : List Int32} (A : StrA Z h x cs) (l1 : cs.length ≤ 4000) (hfr : 1 ≤ R.frames) (hlo : W + 12 ≤ R.locals) :
    Back l R p e below s args (⟨"java/lang/String", "isEmpty", "()Z"⟩ : MethodName) len W (fun P a => a = #[.ref x] ∧ P.U.heap = h ∧ P.cells + 0 ≤ R.cells ∧ P.slots + 0 ≤ R.slots)
      (fun P _ v B => ∃ L, (v = some (.int (if cs.length = 0 then 1 else 0)) ∧ L = [] ∧ B.U.heap = h) ∧ B.locs = P.locs ++ L ∧ B.cells = P.cells + 0 ∧ B.slots = P.slots + 0) := by
  obtain ⟨t, kb, cd, N2, vs, a1, a2, a3, a4, a5, a6⟩ := A
  exact StrChars.Road.empW hZ (fun d hd => hw d (ws_emp d hd)) (kI := 4) (wq hw 2 rfl) a1 a2 a3 a4 a5 a6 l1 hfr hlo
theorem pd_0 : parseMethodDescriptor "(IILjava/util/function/BiFunction;)I" = some ⟨[.int, .int, (.object "java/util/function/BiFunction")], some .int⟩ := by decide +kernel
theorem pd_1 : parseMethodDescriptor "([B)I" = some ⟨[(.array .byte)], some .int⟩ := by decide +kernel
theorem pd_2 : parseMethodDescriptor "(II)V" = some ⟨[.int, .int], none⟩ := by decide +kernel
theorem pd_3 : parseMethodDescriptor "(I[B)V" = some ⟨[.int, (.array .byte)], none⟩ := by decide +kernel
theorem pd_4 : parseMethodDescriptor "([BI)C" = some ⟨[(.array .byte), .int], some .char⟩ := by decide +kernel
theorem pd_5 : parseMethodDescriptor "()Z" = some ⟨[], some .boolean⟩ := by decide +kernel
theorem pd_6 : parseMethodDescriptor "([CIILjava/lang/Void;)V" = some ⟨[(.array .char), .int, .int, (.object "java/lang/Void")], none⟩ := by decide +kernel
theorem pd_7 : parseMethodDescriptor "(I)I" = some ⟨[.int], some .int⟩ := by decide +kernel
theorem pd_8 : parseMethodDescriptor "(I)[B" = some ⟨[.int], some (.array .byte)⟩ := by decide +kernel
theorem pd_9 : parseMethodDescriptor "([BII)V" = some ⟨[(.array .byte), .int, .int], none⟩ := by decide +kernel
theorem pd_10 : parseMethodDescriptor "([CI[BII)I" = some ⟨[(.array .char), .int, (.array .byte), .int, .int], some .int⟩ := by decide +kernel
theorem pd_11 : parseMethodDescriptor "([CII)[B" = some ⟨[(.array .char), .int, .int], some (.array .byte)⟩ := by decide +kernel
theorem pd_12 : parseMethodDescriptor "([BI)B" = some ⟨[(.array .byte), .int], some .byte⟩ := by decide +kernel
theorem pd_13 : parseMethodDescriptor "(I)Z" = some ⟨[.int], some .boolean⟩ := by decide +kernel
theorem pd_14 : parseMethodDescriptor "(II)I" = some ⟨[.int, .int], some .int⟩ := by decide +kernel
theorem pd_15 : parseMethodDescriptor "([BIII)I" = some ⟨[(.array .byte), .int, .int, .int], some .int⟩ := by decide +kernel
theorem pd_16 : parseMethodDescriptor "()I" = some ⟨[], some .int⟩ := by decide +kernel
theorem pd_17 : parseMethodDescriptor "(I)C" = some ⟨[.int], some .char⟩ := by decide +kernel
theorem pd_18 : parseMethodDescriptor "([C)V" = some ⟨[(.array .char)], none⟩ := by decide +kernel
theorem pd_19 : parseMethodDescriptor "(Ljava/lang/String;)Z" = some ⟨[(.object "java/lang/String")], some .boolean⟩ := by decide +kernel
theorem pd_20 : parseMethodDescriptor "(C)Z" = some ⟨[.char], some .boolean⟩ := by decide +kernel
theorem shl1n {n : Nat} (h : 2 * n < 2 ^ 31) : Int32.ofNat n <<< ((1 : Int32) &&& 31) = Int32.ofNat (2 * n) := by
  have q := c_ishl (Int32.ofNat n) 1 1 (by decide)
  apply Int32.toInt_inj.mp
  rw [Int32.toInt_ofNat_small (show n < 2 ^ 31 by omega)] at q
  rw [Int32.toInt_ofNat_small h]
  have r := rng32 (Int32.ofNat n <<< ((1 : Int32) &&& 31))
  omega
theorem add1n (n : Nat) : Int32.ofNat n + (1 : Int32) = Int32.ofNat (n + 1) := (inc_ofNat n).symm
def C16 (c : Int32) : Prop := (¬ c < 0 ∧ ¬ (65535 : Int32) < c) ∧ nar .char c = c
theorem c16_i2c (x : Int32) : C16 (x.toUInt32.toUInt16.toUInt32.toInt32) := by
  have q := c_i2c x
  have e1 : (65535 : Int32).toInt = 65535 := rfl
  have e0 : (0 : Int32).toInt = 0 := rfl
  refine ⟨⟨fun z => ?_, fun z => ?_⟩, ?_⟩
  · rw [Int32.lt_iff_toInt_lt] at z; omega
  · rw [Int32.lt_iff_toInt_lt] at z; omega
  · show (x.toUInt32.toUInt16.toUInt32.toInt32).toUInt32.toUInt16.toUInt32.toInt32 = x.toUInt32.toUInt16.toUInt32.toInt32
    have r := c_i2c (x.toUInt32.toUInt16.toUInt32.toInt32)
    apply Int32.toInt_inj.mp
    omega
theorem nar_byte (x : Int32) : nar .byte x.toInt8.toInt32 = x.toInt8.toInt32 := by show (x.toInt8.toInt32).toInt8.toInt32 = _; simp

def EL : List (String × Nat) := [("com/example/permitd/permitd/http/Headers", 36), ("java/lang/String", 7)]
theorem ws_lit : ∀ d ∈ Bundle.stringAtoms, d ∈ tables_1 := by decide +kernel
theorem ew {Z : State} {a0 : Array Value} (hw : ∀ d ∈ tables_1, d.before a0 Z = true) : EW Z a0 EL := (EW.cons (wq hw 78 rfl) (by decide +kernel) (EW.cons (wq hw 14 rfl) (by decide +kernel) EW.nil))
def Bg (Z : State) (h : Heap) (fm : Value) : Prop := Cmp Z h ∧ Sta Z h "java/lang/StringUTF16" "$assertionsDisabled" "Z" (.int (1 : Int32)) ∧ Sta Z h "java/lang/StringUTF16" "HI_BYTE_SHIFT" "I" (.int (0 : Int32)) ∧ Sta Z h "java/lang/StringUTF16" "LO_BYTE_SHIFT" "I" (.int (8 : Int32)) ∧ Sta Z h "jdk/internal/util/Preconditions" "SIOOBE_FORMATTER" "Ljava/util/function/BiFunction;" fm ∧ fm.isRef = true
theorem Bg.ext {Z : State} {h h' : Heap} {fm : Value} (B : Bg Z h fm) (E : Ext h h') : Bg Z h' fm := ⟨B.1.ext E, B.2.1.ext E, B.2.2.1.ext E, B.2.2.2.1.ext E, B.2.2.2.2.1.ext E, B.2.2.2.2.2⟩
theorem Bg.wr {Z : State} {h h' : Heap} {fm : Value} {a : Addr} {sl : Nat} {v : Value} (B : Bg Z h fm) (W : Wr h h' a sl v) : Bg Z h' fm := ⟨by obtain ⟨z, S, q⟩ := B.1; exact ⟨z, S.wr W, q⟩, B.2.1.wr W, B.2.2.1.wr W, B.2.2.2.1.wr W, B.2.2.2.2.1.wr W, B.2.2.2.2.2⟩
theorem Sta.keep1 {Z : State} {h h' : Heap} {C n d : String} {w : Value} {a : Addr} (K : Keep h h' [a]) (hn : ∀ cell : Cell, h[a]? = some cell → cell.vm.isStatics = false) (F : Sta Z h C n d w) : Sta Z h' C n d w := by
  obtain ⟨cf, i, k, f, st, cell, h1, h2, h3, h4, h5, h6, h7⟩ := F
  refine ⟨cf, i, k, f, st, cell, h1, h2, h3, h4, K.2.1 _ _ h5 (fun z => ?_), h6, h7⟩
  cases List.mem_singleton.mp z
  rw [hn _ h5] at h6; cases h6
theorem Bg.keep1 {Z : State} {h h' : Heap} {fm : Value} {a : Addr} (B : Bg Z h fm) (K : Keep h h' [a]) (hn : ∀ cell : Cell, h[a]? = some cell → cell.vm.isStatics = false) : Bg Z h' fm := ⟨by obtain ⟨z, S, q⟩ := B.1; exact ⟨z, Sta.keep1 K hn S, q⟩, Sta.keep1 K hn B.2.1, Sta.keep1 K hn B.2.2.1, Sta.keep1 K hn B.2.2.2.1, Sta.keep1 K hn B.2.2.2.2.1, B.2.2.2.2.2⟩
theorem dpc_0 : decode jdk_41_method_11_code 0 = .ok (.iload_n 0, 1) := by decide +kernel
theorem dpc_1 : decode jdk_41_method_11_code 1 = .ok (.ifCond .lt 8, 3) := by decide +kernel
theorem dpc_4 : decode jdk_41_method_11_code 4 = .ok (.iload_n 0, 1) := by decide +kernel
theorem dpc_5 : decode jdk_41_method_11_code 5 = .ok (.iload_n 1, 1) := by decide +kernel
theorem dpc_6 : decode jdk_41_method_11_code 6 = .ok (.if_icmp .lt 10, 3) := by decide +kernel
theorem dpc_9 : decode jdk_41_method_11_code 9 = .ok (.aload_n 2, 1) := by decide +kernel
theorem dpc_10 : decode jdk_41_method_11_code 10 = .ok (.iload_n 0, 1) := by decide +kernel
theorem dpc_11 : decode jdk_41_method_11_code 11 = .ok (.iload_n 1, 1) := by decide +kernel
theorem dpc_12 : decode jdk_41_method_11_code 12 = .ok (.invokestatic 95, 3) := by decide +kernel
theorem dpc_15 : decode jdk_41_method_11_code 15 = .ok (.athrow, 1) := by decide +kernel
theorem dpc_16 : decode jdk_41_method_11_code 16 = .ok (.iload_n 0, 1) := by decide +kernel
theorem dpc_17 : decode jdk_41_method_11_code 17 = .ok (.ireturn, 1) := by decide +kernel
theorem pn_pchk : plainFor (⟨"jdk/internal/util/Preconditions", "checkIndex", "(IILjava/util/function/BiFunction;)I"⟩ : MethodName) = true := by first | exact plainFor_of_name (by first | (simp [plainName, overriddenIn]; done) | decide +kernel) | exact Jvm.Free.JP.mathPlain rfl (by decide +kernel)
theorem ef_pchk (m : MethodId) (x0 : Int32) (x1 : Int32) (x2 : Value) (hx2 : x2.isRef = true) : entryFrame m #[(.int x0), (.int x1), x2] 3 = mkF m 0 #[vI x0, vI x1, .val x2] [] := by rcases ref_cases hx2 with rfl | ⟨_, rfl⟩ <;> rfl
def Q_pchk (Z : State) (ix nn : Int32) (fm : Value) (h0 : Heap) (n0 : Nat) (v : Option Value) (h : Heap) (L : List Loc) : Prop := v = some (.int ix) ∧ Fr n0 L ∧ h = h0
set_option maxRecDepth 65536 in
set_option maxHeartbeats 40000000 in
theorem rm_pchk (l : Launch) (Z : State) (a0 : Array Value) (hw : ∀ d ∈ tables_1, d.before a0 Z = true) (ws : List Jvm.Cond) (ix nn : Int32) (fm : Value) (h0 : Heap) (n0 : Nat) (Z0 : n0 ≤ h0.size) (h_fm : fm.isRef = true) (h1 : ¬ ix < 0) (h2 : ix < nn) :
    MetFree l (⟨"jdk/internal/util/Preconditions", "checkIndex", "(IILjava/util/function/BiFunction;)I"⟩ : MethodName) (head1 (Jvm.Cond.code (⟨"jdk/internal/util/Preconditions", "checkIndex", "(IILjava/util/function/BiFunction;)I"⟩ : MethodName) jdk_41_method_11_code 3 (some .int) :: ws) ({ frames := 0, cells := 0, slots := 0, locals := 0 } : Room)) (fun a U => a = #[(.int ix), (.int nn), fm] ∧ Z.Warmed39 U.vm ∧ U.heap = h0) (fun _ _ _ _ _ => True) (fun _ U o U' => ∃ v L, o = .returned v ∧ Q_pchk Z ix nn fm h0 n0 v U'.heap L ∧ FrameEnd U o U' L ({ frames := 0, cells := 0, slots := 0, locals := 0 } : Room).cells ({ frames := 0, cells := 0, slots := 0, locals := 0 } : Room).slots) := by
  refine MetFree.of_bodySF pn_pchk hisR ?_
  intro p e s m args below meth c s₁ Bd hml0 hP hK
  obtain ⟨rfl, hZ, hh⟩ := hP
  have hx := Bd.exec
  have hby := Bd.bytes
  have hml : c.maxLocals = 3 := hml0
  have hown : s.vm.findClass "jdk/internal/util/Preconditions" = some m.cls := findClass_of_methodNamed Bd.named
  have hnm := (name_of_methodNamed Bd.named Bd.method).1
  have X0 : Stand p l e ({ frames := 0, cells := 0, slots := 0, locals := 0 } : Room) s m #[(.int ix), (.int nn), fm] below meth c s₁ [] 0 0 := Stand.of_body Bd
  have e0 : s₁.heap = h0 := by rw [← hh, Bd.state]; rfl
  have N0 := Fr.nil n0
  show Rch p e below s₁ (entryFrame m #[(.int ix), (.int nn), fm] 3) (fun U o => ∃ v L, o = .returned v ∧ Q_pchk Z ix nn fm h0 n0 v U.heap L ∧ FrameEnd s o U L ({ frames := 0, cells := 0, slots := 0, locals := 0 } : Room).cells ({ frames := 0, cells := 0, slots := 0, locals := 0 } : Room).slots)
  refine Rch.cast (ef_pchk m ix nn fm h_fm) ?_
  show Rch p e below s₁ (mkF m 0 #[vI ix, vI nn, .val fm] []) _
  refine Rch.st (fun _ k => XS.iloadN X0.here hx rfl (hb hby dpc_0) rfl k) ?_
  refine Rch.st (fun _ k => XS.ifNo X0.here hx rfl (hb hby dpc_1) rfl ((if0 _ _).trans (flt h1).1) k) ?_
  show Rch p e below s₁ (mkF m 4 #[vI ix, vI nn, .val fm] []) _
  refine Rch.st (fun _ k => XS.iloadN X0.here hx rfl (hb hby dpc_4) rfl k) ?_
  refine Rch.st (fun _ k => XS.iloadN X0.here hx rfl (hb hby dpc_5) rfl k) ?_
  show Rch p e below s₁ (mkF m 6 #[vI ix, vI nn, .val fm] [(.int nn), (.int ix)]) _
  refine Rch.st (fun _ k => XS.icmpYes X0.here hx rfl (pc0 := 6) (pc' := 16) rfl (hb hby dpc_6) rfl (tlt h2).1 (by decide) (by decide) k) ?_
  refine Rch.st (fun _ k => XS.iloadN X0.here hx rfl (hb hby dpc_16) rfl k) ?_
  show Rch p e below s₁ (mkF m 17 #[vI ix, vI nn, .val fm] [(.int ix)]) _
  exact Rch.fin (Q := Q_pchk Z ix nn fm h0 n0) X0 (v := some (.int ix)) (fun h => by rw [Bd.returns] at h; cases h) (BodyLoose.notSynchronized Bd) (fun fs hr => retI X0 hx Bd.returns (hb hby dpc_17) hr) (by rw [e0]; exact ⟨rfl, N0, rfl⟩) (by decide) (by decide)
theorem dsc_0 : decode jdk_42_method_155_code 0 = .ok (.iload_n 0, 1) := by decide +kernel
theorem dsc_1 : decode jdk_42_method_155_code 1 = .ok (.iload_n 1, 1) := by decide +kernel
theorem dsc_2 : decode jdk_42_method_155_code 2 = .ok (.getstatic 1053, 3) := by decide +kernel
theorem dsc_5 : decode jdk_42_method_155_code 5 = .ok (.invokestatic 1059, 3) := by decide +kernel
theorem dsc_8 : decode jdk_42_method_155_code 8 = .ok (.pop, 1) := by decide +kernel
theorem dsc_9 : decode jdk_42_method_155_code 9 = .ok (.return_, 1) := by decide +kernel
theorem pn_schk : plainFor (⟨"java/lang/String", "checkIndex", "(II)V"⟩ : MethodName) = true := by first | exact plainFor_of_name (by first | (simp [plainName, overriddenIn]; done) | decide +kernel) | exact Jvm.Free.JP.mathPlain rfl (by decide +kernel)
theorem ef_schk (m : MethodId) (x0 : Int32) (x1 : Int32) : entryFrame m #[(.int x0), (.int x1)] 2 = mkF m 0 #[vI x0, vI x1] [] := by first | (simp [entryFrame, mkF, argsToLocals, Value.category]; done) | rfl
def Q_schk (Z : State) (ix nn : Int32) (fm : Value) (h0 : Heap) (n0 : Nat) (v : Option Value) (h : Heap) (L : List Loc) : Prop := v = none ∧ Fr n0 L ∧ h = h0
set_option maxRecDepth 65536 in
set_option maxHeartbeats 40000000 in
theorem rm_schk (l : Launch) (Z : State) (a0 : Array Value) (hw : ∀ d ∈ tables_1, d.before a0 Z = true) (ws : List Jvm.Cond) (ix nn : Int32) (fm : Value) (h0 : Heap) (n0 : Nat) (Z0 : n0 ≤ h0.size) (B : Bg Z h0 fm) (h1 : ¬ ix < 0) (h2 : ix < nn) :
    MetFree l (⟨"java/lang/String", "checkIndex", "(II)V"⟩ : MethodName) (head1 (Jvm.Cond.code (⟨"java/lang/String", "checkIndex", "(II)V"⟩ : MethodName) jdk_42_method_155_code 2 none :: ws) ({ frames := 1, cells := 0, slots := 0, locals := 14 } : Room)) (fun a U => a = #[(.int ix), (.int nn)] ∧ Z.Warmed39 U.vm ∧ U.heap = h0) (fun _ _ _ _ _ => True) (fun _ U o U' => ∃ v L, o = .returned v ∧ Q_schk Z ix nn fm h0 n0 v U'.heap L ∧ FrameEnd U o U' L ({ frames := 1, cells := 0, slots := 0, locals := 14 } : Room).cells ({ frames := 1, cells := 0, slots := 0, locals := 14 } : Room).slots) := by
  refine MetFree.of_bodySF pn_schk hisR ?_
  intro p e s m args below meth c s₁ Bd hml0 hP hK
  obtain ⟨rfl, hZ, hh⟩ := hP
  have hx := Bd.exec
  have hby := Bd.bytes
  have hml : c.maxLocals = 2 := hml0
  have hown : s.vm.findClass "java/lang/String" = some m.cls := findClass_of_methodNamed Bd.named
  have hnm := (name_of_methodNamed Bd.named Bd.method).1
  have X0 : Stand p l e ({ frames := 1, cells := 0, slots := 0, locals := 14 } : Room) s m #[(.int ix), (.int nn)] below meth c s₁ [] 0 0 := Stand.of_body Bd
  have e0 : s₁.heap = h0 := by rw [← hh, Bd.state]; rfl
  have N0 := Fr.nil n0
  show Rch p e below s₁ (entryFrame m #[(.int ix), (.int nn)] 2) (fun U o => ∃ v L, o = .returned v ∧ Q_schk Z ix nn fm h0 n0 v U.heap L ∧ FrameEnd s o U L ({ frames := 1, cells := 0, slots := 0, locals := 14 } : Room).cells ({ frames := 1, cells := 0, slots := 0, locals := 14 } : Room).slots)
  refine Rch.cast (ef_schk m ix nn) ?_
  show Rch p e below s₁ (mkF m 0 #[vI ix, vI nn] []) _
  refine Rch.st (fun _ k => XS.iloadN X0.here hx rfl (hb hby dsc_0) rfl k) ?_
  refine Rch.st (fun _ k => XS.iloadN X0.here hx rfl (hb hby dsc_1) rfl k) ?_
  show Rch p e below s₁ (mkF m 2 #[vI ix, vI nn] [(.int nn), (.int ix)]) _
  obtain ⟨T1, X1, e1, st1⟩ := getS2 X0 hx hZ hown (host := "") (Or.inl (wq hw 73 rfl)) Via.refl e0 B.2.2.2.2.1 (g := (mkF m 2 #[vI ix, vI nn] [(.int nn), (.int ix)])) rfl (hb hby dsc_2)
  refine Rch.st st1 ?_
  show Rch p e below T1 (mkF m 5 #[vI ix, vI nn] [fm, (.int nn), (.int ix)]) _
  obtain ⟨_, _, ⟨T2, L2, k2, n2⟩, -, X2, ⟨Lc2, hQ2, l2, y2, z2⟩, st2⟩ := Jvm.LawKit.callS X1 hx (y := (⟨"jdk/internal/util/Preconditions", "checkIndex", "(IILjava/util/function/BiFunction;)I"⟩ : MethodName)) hown (mvT hZ (wq hw 75 rfl)) (mvT hZ (wq hw 76 rfl)) (mvT hZ (wq hw 74 rfl)) (mvT hZ (wq hw 77 rfl)) (by decide) (backOf (W := 0) (rm_pchk l Z a0 hw [] ix nn fm h0 n0 Z0 B.2.2.2.2.2 h1 h2) hZ (wq hw 77 rfl) (wq hw 74 rfl) (by decide) (by decide)) (g := (mkF m 5 #[vI ix, vI nn] [fm, (.int nn), (.int ix)])) rfl (by rw [hml]; rfl) (argsL := [(.int ix), (.int nn), fm]) (rest := []) (lenOf pd_0 rfl) rfl (by show 2 * 0 + _ ≤ _; exact Nat.le_of_eq rfl) (hb hby dsc_5) (fun _ _ => ⟨rfl, e1, (by decide : 0 + 0 ≤ _), (by decide : 0 + 0 ≤ _)⟩)
  dsimp only [Pt.U, Pt.locs, Pt.cells, Pt.slots] at X2 l2 y2 z2 st2 hQ2
  subst l2 y2 z2
  obtain ⟨rfl, Nq2, e2⟩ := hQ2
  have N2 := Fr.app N0 Nq2
  refine Rch.st st2 ?_
  show Rch p e below T2 (mkF m 8 #[vI ix, vI nn] [(.int ix)]) _
  refine Rch.st (fun _ k => XT.pop X2.here hx rfl (hb hby dsc_8) rfl rfl k) ?_
  show Rch p e below T2 (mkF m 9 #[vI ix, vI nn] []) _
  exact Rch.fin (Q := Q_schk Z ix nn fm h0 n0) X2 (v := none) (fun _ => rfl) (BodyLoose.notSynchronized Bd) (fun fs hr => X2.returnOut hx Bd.returns (hb hby dsc_9) hr) (by rw [e2]; exact ⟨rfl, N2, rfl⟩) (by decide) (by decide)
theorem dul_0 : decode jdk_52_method_6_code 0 = .ok (.aload_n 0, 1) := by decide +kernel
theorem dul_1 : decode jdk_52_method_6_code 1 = .ok (.arraylength, 1) := by decide +kernel
theorem dul_2 : decode jdk_52_method_6_code 2 = .ok (.iconst 1, 1) := by decide +kernel
theorem dul_3 : decode jdk_52_method_6_code 3 = .ok (.ishr, 1) := by decide +kernel
theorem dul_4 : decode jdk_52_method_6_code 4 = .ok (.ireturn, 1) := by decide +kernel
theorem pn_ulen : plainFor (⟨"java/lang/StringUTF16", "length", "([B)I"⟩ : MethodName) = true := by first | exact plainFor_of_name (by first | (simp [plainName, overriddenIn]; done) | decide +kernel) | exact Jvm.Free.JP.mathPlain rfl (by decide +kernel)
theorem ef_ulen (m : MethodId) (x0 : Addr) : entryFrame m #[(.ref x0)] 1 = mkF m 0 #[vR x0] [] := by first | (simp [entryFrame, mkF, argsToLocals, Value.category]; done) | rfl
def Q_ulen (Z : State) (tb : Addr) (kb : ClassId) (vs : List Value) (nn : Nat) (h0 : Heap) (n0 : Nat) (v : Option Value) (h : Heap) (L : List Loc) : Prop := v = some (.int (Int32.ofNat nn)) ∧ Fr n0 L ∧ h = h0
set_option maxRecDepth 65536 in
set_option maxHeartbeats 40000000 in
theorem rm_ulen (l : Launch) (Z : State) (a0 : Array Value) (hw : ∀ d ∈ tables_1, d.before a0 Z = true) (ws : List Jvm.Cond) (tb : Addr) (kb : ClassId) (vs : List Value) (nn : Nat) (h0 : Heap) (n0 : Nat) (Z0 : n0 ≤ h0.size) (M : Arv Z h0 tb kb .byte (Int32.ofNat (2 * nn)) vs (.int 0)) (hn : 2 * nn < 2 ^ 31) :
    MetFree l (⟨"java/lang/StringUTF16", "length", "([B)I"⟩ : MethodName) (head1 (Jvm.Cond.code (⟨"java/lang/StringUTF16", "length", "([B)I"⟩ : MethodName) jdk_52_method_6_code 1 (some .int) :: ws) ({ frames := 0, cells := 0, slots := 0, locals := 0 } : Room)) (fun a U => a = #[(.ref tb)] ∧ Z.Warmed39 U.vm ∧ U.heap = h0) (fun _ _ _ _ _ => True) (fun _ U o U' => ∃ v L, o = .returned v ∧ Q_ulen Z tb kb vs nn h0 n0 v U'.heap L ∧ FrameEnd U o U' L ({ frames := 0, cells := 0, slots := 0, locals := 0 } : Room).cells ({ frames := 0, cells := 0, slots := 0, locals := 0 } : Room).slots) := by
  refine MetFree.of_bodySF pn_ulen hisR ?_
  intro p e s m args below meth c s₁ Bd hml0 hP hK
  obtain ⟨rfl, hZ, hh⟩ := hP
  have hx := Bd.exec
  have hby := Bd.bytes
  have hml : c.maxLocals = 1 := hml0
  have hown : s.vm.findClass "java/lang/StringUTF16" = some m.cls := findClass_of_methodNamed Bd.named
  have hnm := (name_of_methodNamed Bd.named Bd.method).1
  have X0 : Stand p l e ({ frames := 0, cells := 0, slots := 0, locals := 0 } : Room) s m #[(.ref tb)] below meth c s₁ [] 0 0 := Stand.of_body Bd
  have e0 : s₁.heap = h0 := by rw [← hh, Bd.state]; rfl
  have N0 := Fr.nil n0
  show Rch p e below s₁ (entryFrame m #[(.ref tb)] 1) (fun U o => ∃ v L, o = .returned v ∧ Q_ulen Z tb kb vs nn h0 n0 v U.heap L ∧ FrameEnd s o U L ({ frames := 0, cells := 0, slots := 0, locals := 0 } : Room).cells ({ frames := 0, cells := 0, slots := 0, locals := 0 } : Room).slots)
  refine Rch.cast (ef_ulen m tb) ?_
  show Rch p e below s₁ (mkF m 0 #[vR tb] []) _
  refine Rch.st (fun _ k => XS.aloadN X0.here hx rfl (hb hby dul_0) rfl rfl k) ?_
  show Rch p e below s₁ (mkF m 1 #[vR tb] [(.ref tb)]) _
  refine Rch.st (alenA X0 hx hZ e0 M.arh (g := (mkF m 1 #[vR tb] [(.ref tb)])) rfl rfl (hb hby dul_1)) ?_
  show Rch p e below s₁ (mkF m 2 #[vR tb] [(.int (Int32.ofNat (2 * nn)))]) _
  refine Rch.st (fun _ k => XS.iconst X0.here hx rfl (hb hby dul_2)  k) ?_
  show Rch p e below s₁ (mkF m 3 #[vR tb] [(.int (1 : Int32)), (.int (Int32.ofNat (2 * nn)))]) _
  refine Rch.st (fun _ k => XT.ishr X0.here hx rfl (hb hby dul_3) rfl k) ?_
  show Rch p e below s₁ (mkF m 4 #[vR tb] [(.int ((Int32.ofNat (2 * nn)) >>> ((1 : Int32) &&& 31)))]) _
  rw [StrChars.shr1 hn]
  show Rch p e below s₁ (mkF m 4 #[vR tb] [(.int (Int32.ofNat nn))]) _
  exact Rch.fin (Q := Q_ulen Z tb kb vs nn h0 n0) X0 (v := some (.int (Int32.ofNat nn))) (fun h => by rw [Bd.returns] at h; cases h) (BodyLoose.notSynchronized Bd) (fun fs hr => retI X0 hx Bd.returns (hb hby dul_4) hr) (by rw [e0]; exact ⟨rfl, N0, rfl⟩) (by decide) (by decide)
theorem duc_0 : decode jdk_52_method_91_code 0 = .ok (.iload_n 0, 1) := by decide +kernel
theorem duc_1 : decode jdk_52_method_91_code 1 = .ok (.aload_n 1, 1) := by decide +kernel
theorem duc_2 : decode jdk_52_method_91_code 2 = .ok (.invokestatic 48, 3) := by decide +kernel
theorem duc_5 : decode jdk_52_method_91_code 5 = .ok (.invokestatic 414, 3) := by decide +kernel
theorem duc_8 : decode jdk_52_method_91_code 8 = .ok (.return_, 1) := by decide +kernel
theorem pn_uchk : plainFor (⟨"java/lang/StringUTF16", "checkIndex", "(I[B)V"⟩ : MethodName) = true := by first | exact plainFor_of_name (by first | (simp [plainName, overriddenIn]; done) | decide +kernel) | exact Jvm.Free.JP.mathPlain rfl (by decide +kernel)
theorem ef_uchk (m : MethodId) (x0 : Int32) (x1 : Addr) : entryFrame m #[(.int x0), (.ref x1)] 2 = mkF m 0 #[vI x0, vR x1] [] := by first | (simp [entryFrame, mkF, argsToLocals, Value.category]; done) | rfl
def Q_uchk (Z : State) (tb : Addr) (kb : ClassId) (cs : List Int32) (i : Nat) (fm : Value) (h0 : Heap) (n0 : Nat) (v : Option Value) (h : Heap) (L : List Loc) : Prop := v = none ∧ Fr n0 L ∧ h = h0
set_option maxRecDepth 65536 in
set_option maxHeartbeats 40000000 in
theorem rm_uchk (l : Launch) (Z : State) (a0 : Array Value) (hw : ∀ d ∈ tables_1, d.before a0 Z = true) (ws : List Jvm.Cond) (tb : Addr) (kb : ClassId) (cs : List Int32) (i : Nat) (fm : Value) (h0 : Heap) (n0 : Nat) (Z0 : n0 ≤ h0.size) (B : Bg Z h0 fm) (M : Arv Z h0 tb kb .byte (Int32.ofNat (2 * cs.length)) (StrChars.Road.wideBytes cs) (.int 0)) (hi : i < cs.length) (hl : cs.length ≤ 4000) :
    MetFree l (⟨"java/lang/StringUTF16", "checkIndex", "(I[B)V"⟩ : MethodName) (head1 (Jvm.Cond.code (⟨"java/lang/StringUTF16", "checkIndex", "(I[B)V"⟩ : MethodName) jdk_52_method_91_code 2 none :: ws) ({ frames := 2, cells := 0, slots := 0, locals := 27 } : Room)) (fun a U => a = #[(.int (Int32.ofNat i)), (.ref tb)] ∧ Z.Warmed39 U.vm ∧ U.heap = h0) (fun _ _ _ _ _ => True) (fun _ U o U' => ∃ v L, o = .returned v ∧ Q_uchk Z tb kb cs i fm h0 n0 v U'.heap L ∧ FrameEnd U o U' L ({ frames := 2, cells := 0, slots := 0, locals := 27 } : Room).cells ({ frames := 2, cells := 0, slots := 0, locals := 27 } : Room).slots) := by
  refine MetFree.of_bodySF pn_uchk hisR ?_
  intro p e s m args below meth c s₁ Bd hml0 hP hK
  obtain ⟨rfl, hZ, hh⟩ := hP
  have hx := Bd.exec
  have hby := Bd.bytes
  have hml : c.maxLocals = 2 := hml0
  have hown : s.vm.findClass "java/lang/StringUTF16" = some m.cls := findClass_of_methodNamed Bd.named
  have hnm := (name_of_methodNamed Bd.named Bd.method).1
  have X0 : Stand p l e ({ frames := 2, cells := 0, slots := 0, locals := 27 } : Room) s m #[(.int (Int32.ofNat i)), (.ref tb)] below meth c s₁ [] 0 0 := Stand.of_body Bd
  have e0 : s₁.heap = h0 := by rw [← hh, Bd.state]; rfl
  have N0 := Fr.nil n0
  show Rch p e below s₁ (entryFrame m #[(.int (Int32.ofNat i)), (.ref tb)] 2) (fun U o => ∃ v L, o = .returned v ∧ Q_uchk Z tb kb cs i fm h0 n0 v U.heap L ∧ FrameEnd s o U L ({ frames := 2, cells := 0, slots := 0, locals := 27 } : Room).cells ({ frames := 2, cells := 0, slots := 0, locals := 27 } : Room).slots)
  refine Rch.cast (ef_uchk m (Int32.ofNat i) tb) ?_
  show Rch p e below s₁ (mkF m 0 #[vI (Int32.ofNat i), vR tb] []) _
  refine Rch.st (fun _ k => XS.iloadN X0.here hx rfl (hb hby duc_0) rfl k) ?_
  refine Rch.st (fun _ k => XS.aloadN X0.here hx rfl (hb hby duc_1) rfl rfl k) ?_
  show Rch p e below s₁ (mkF m 2 #[vI (Int32.ofNat i), vR tb] [(.ref tb), (.int (Int32.ofNat i))]) _
  obtain ⟨_, _, ⟨T3, L3, k3, n3⟩, -, X3, ⟨Lc3, hQ3, l3, y3, z3⟩, st3⟩ := Jvm.LawKit.callS X0 hx (y := (⟨"java/lang/StringUTF16", "length", "([B)I"⟩ : MethodName)) hown (mvT hZ (wq hw 131 rfl)) (mvT hZ (wq hw 132 rfl)) (mvT hZ (wq hw 38 rfl)) (mvT hZ (wq hw 133 rfl)) (by decide) (backOf (W := 1) (rm_ulen l Z a0 hw [] tb kb _ cs.length h0 n0 Z0 M (by omega)) hZ (wq hw 133 rfl) (wq hw 38 rfl) (by decide) (by decide)) (g := (mkF m 2 #[vI (Int32.ofNat i), vR tb] [(.ref tb), (.int (Int32.ofNat i))])) rfl (by rw [hml]; rfl) (argsL := [(.ref tb)]) (rest := [(.int (Int32.ofNat i))]) (lenOf pd_1 rfl) rfl (by show 2 * 0 + _ ≤ _; exact Nat.le_of_eq rfl) (hb hby duc_2) (fun _ _ => ⟨rfl, e0, (by decide : 0 + 0 ≤ _), (by decide : 0 + 0 ≤ _)⟩)
  dsimp only [Pt.U, Pt.locs, Pt.cells, Pt.slots] at X3 l3 y3 z3 st3 hQ3
  subst l3 y3 z3
  obtain ⟨rfl, Nq3, e3⟩ := hQ3
  have N3 := Fr.app N0 Nq3
  refine Rch.st st3 ?_
  show Rch p e below T3 (mkF m 5 #[vI (Int32.ofNat i), vR tb] [(.int (Int32.ofNat cs.length)), (.int (Int32.ofNat i))]) _
  obtain ⟨_, _, ⟨T4, L4, k4, n4⟩, -, X4, ⟨Lc4, hQ4, l4, y4, z4⟩, st4⟩ := Jvm.LawKit.callS X3 hx (y := (⟨"java/lang/String", "checkIndex", "(II)V"⟩ : MethodName)) hown (mvT hZ (wq hw 134 rfl)) (mvT hZ (wq hw 71 rfl)) (mvT hZ (wq hw 3 rfl)) (mvT hZ (wq hw 72 rfl)) (by decide) (backOf (W := 0) (rm_schk l Z a0 hw [] (Int32.ofNat i) (Int32.ofNat cs.length) fm h0 n0 Z0 B (ofN_neg (by omega)) (ofN_lt hi (by omega))) hZ (wq hw 72 rfl) (wq hw 3 rfl) (by decide) (by decide)) (g := (mkF m 5 #[vI (Int32.ofNat i), vR tb] [(.int (Int32.ofNat cs.length)), (.int (Int32.ofNat i))])) rfl (by rw [hml]; rfl) (argsL := [(.int (Int32.ofNat i)), (.int (Int32.ofNat cs.length))]) (rest := []) (lenOf pd_2 rfl) rfl (by show 2 * 0 + _ ≤ _; exact Nat.le_of_eq rfl) (hb hby duc_5) (fun _ _ => ⟨rfl, e3, (by decide : 0 + 0 ≤ _), (by decide : 0 + 0 ≤ _)⟩)
  dsimp only [Pt.U, Pt.locs, Pt.cells, Pt.slots] at X4 l4 y4 z4 st4 hQ4
  subst l4 y4 z4
  obtain ⟨rfl, Nq4, e4⟩ := hQ4
  have N4 := Fr.app N3 Nq4
  refine Rch.st st4 ?_
  show Rch p e below T4 (mkF m 8 #[vI (Int32.ofNat i), vR tb] []) _
  exact Rch.fin (Q := Q_uchk Z tb kb cs i fm h0 n0) X4 (v := none) (fun _ => rfl) (BodyLoose.notSynchronized Bd) (fun fs hr => X4.returnOut hx Bd.returns (hb hby duc_8) hr) (by rw [e4]; exact ⟨rfl, N4, rfl⟩) (by decide) (by decide)
theorem dgc_0 : decode jdk_52_method_5_code 0 = .ok (.getstatic 44, 3) := by decide +kernel
theorem dgc_3 : decode jdk_52_method_5_code 3 = .ok (.ifCond .ne 25, 3) := by decide +kernel
theorem dgc_6 : decode jdk_52_method_5_code 6 = .ok (.iload_n 1, 1) := by decide +kernel
theorem dgc_7 : decode jdk_52_method_5_code 7 = .ok (.ifCond .lt 11, 3) := by decide +kernel
theorem dgc_10 : decode jdk_52_method_5_code 10 = .ok (.iload_n 1, 1) := by decide +kernel
theorem dgc_11 : decode jdk_52_method_5_code 11 = .ok (.aload_n 0, 1) := by decide +kernel
theorem dgc_12 : decode jdk_52_method_5_code 12 = .ok (.invokestatic 48, 3) := by decide +kernel
theorem dgc_15 : decode jdk_52_method_5_code 15 = .ok (.if_icmp .lt 13, 3) := by decide +kernel
theorem dgc_18 : decode jdk_52_method_5_code 18 = .ok (.new 52, 3) := by decide +kernel
theorem dgc_21 : decode jdk_52_method_5_code 21 = .ok (.dup, 1) := by decide +kernel
theorem dgc_22 : decode jdk_52_method_5_code 22 = .ok (.ldc 54, 2) := by decide +kernel
theorem dgc_24 : decode jdk_52_method_5_code 24 = .ok (.invokespecial 56, 3) := by decide +kernel
theorem dgc_27 : decode jdk_52_method_5_code 27 = .ok (.athrow, 1) := by decide +kernel
theorem dgc_28 : decode jdk_52_method_5_code 28 = .ok (.iload_n 1, 1) := by decide +kernel
theorem dgc_29 : decode jdk_52_method_5_code 29 = .ok (.iconst 1, 1) := by decide +kernel
theorem dgc_30 : decode jdk_52_method_5_code 30 = .ok (.ishl, 1) := by decide +kernel
theorem dgc_31 : decode jdk_52_method_5_code 31 = .ok (.istore_n 1, 1) := by decide +kernel
theorem dgc_32 : decode jdk_52_method_5_code 32 = .ok (.aload_n 0, 1) := by decide +kernel
theorem dgc_33 : decode jdk_52_method_5_code 33 = .ok (.iload_n 1, 1) := by decide +kernel
theorem dgc_34 : decode jdk_52_method_5_code 34 = .ok (.iinc 1 1, 3) := by decide +kernel
theorem dgc_37 : decode jdk_52_method_5_code 37 = .ok (.baload, 1) := by decide +kernel
theorem dgc_38 : decode jdk_52_method_5_code 38 = .ok (.sipush 255, 3) := by decide +kernel
theorem dgc_41 : decode jdk_52_method_5_code 41 = .ok (.iand, 1) := by decide +kernel
theorem dgc_42 : decode jdk_52_method_5_code 42 = .ok (.getstatic 59, 3) := by decide +kernel
theorem dgc_45 : decode jdk_52_method_5_code 45 = .ok (.ishl, 1) := by decide +kernel
theorem dgc_46 : decode jdk_52_method_5_code 46 = .ok (.aload_n 0, 1) := by decide +kernel
theorem dgc_47 : decode jdk_52_method_5_code 47 = .ok (.iload_n 1, 1) := by decide +kernel
theorem dgc_48 : decode jdk_52_method_5_code 48 = .ok (.baload, 1) := by decide +kernel
theorem dgc_49 : decode jdk_52_method_5_code 49 = .ok (.sipush 255, 3) := by decide +kernel
theorem dgc_52 : decode jdk_52_method_5_code 52 = .ok (.iand, 1) := by decide +kernel
theorem dgc_53 : decode jdk_52_method_5_code 53 = .ok (.getstatic 63, 3) := by decide +kernel
theorem dgc_56 : decode jdk_52_method_5_code 56 = .ok (.ishl, 1) := by decide +kernel
theorem dgc_57 : decode jdk_52_method_5_code 57 = .ok (.ior, 1) := by decide +kernel
theorem dgc_58 : decode jdk_52_method_5_code 58 = .ok (.i2c, 1) := by decide +kernel
theorem dgc_59 : decode jdk_52_method_5_code 59 = .ok (.ireturn, 1) := by decide +kernel
theorem pn_getc : plainFor (⟨"java/lang/StringUTF16", "getChar", "([BI)C"⟩ : MethodName) = true := by first | exact plainFor_of_name (by first | (simp [plainName, overriddenIn]; done) | decide +kernel) | exact Jvm.Free.JP.mathPlain rfl (by decide +kernel)
theorem ef_getc (m : MethodId) (x0 : Addr) (x1 : Int32) : entryFrame m #[(.ref x0), (.int x1)] 2 = mkF m 0 #[vR x0, vI x1] [] := by first | (simp [entryFrame, mkF, argsToLocals, Value.category]; done) | rfl
def Q_getc (Z : State) (tb : Addr) (kb : ClassId) (cs : List Int32) (i : Nat) (fm : Value) (h0 : Heap) (n0 : Nat) (v : Option Value) (h : Heap) (L : List Loc) : Prop := v = some (.int (cs.getD i 0)) ∧ Fr n0 L ∧ h = h0
set_option maxRecDepth 65536 in
set_option maxHeartbeats 40000000 in
theorem rm_getc (l : Launch) (Z : State) (a0 : Array Value) (hw : ∀ d ∈ tables_1, d.before a0 Z = true) (ws : List Jvm.Cond) (tb : Addr) (kb : ClassId) (cs : List Int32) (i : Nat) (fm : Value) (h0 : Heap) (n0 : Nat) (Z0 : n0 ≤ h0.size) (B : Bg Z h0 fm) (hbd : ∀ c ∈ cs, ¬ c < 0 ∧ ¬ (65535 : Int32) < c) (M : Arv Z h0 tb kb .byte (Int32.ofNat (2 * cs.length)) (StrChars.Road.wideBytes cs) (.int 0)) (hi : i < cs.length) (hl : cs.length ≤ 4000) :
    MetFree l (⟨"java/lang/StringUTF16", "getChar", "([BI)C"⟩ : MethodName) (head1 (Jvm.Cond.code (⟨"java/lang/StringUTF16", "getChar", "([BI)C"⟩ : MethodName) jdk_52_method_5_code 2 (some .char) :: ws) ({ frames := 0, cells := 0, slots := 0, locals := 0 } : Room)) (fun a U => a = #[(.ref tb), (.int (Int32.ofNat i))] ∧ Z.Warmed39 U.vm ∧ U.heap = h0) (fun _ _ _ _ _ => True) (fun _ U o U' => ∃ v L, o = .returned v ∧ Q_getc Z tb kb cs i fm h0 n0 v U'.heap L ∧ FrameEnd U o U' L ({ frames := 0, cells := 0, slots := 0, locals := 0 } : Room).cells ({ frames := 0, cells := 0, slots := 0, locals := 0 } : Room).slots) := by
  refine MetFree.of_bodySF pn_getc hisR ?_
  intro p e s m args below meth c s₁ Bd hml0 hP hK
  obtain ⟨rfl, hZ, hh⟩ := hP
  have hx := Bd.exec
  have hby := Bd.bytes
  have hml : c.maxLocals = 2 := hml0
  have hown : s.vm.findClass "java/lang/StringUTF16" = some m.cls := findClass_of_methodNamed Bd.named
  have hnm := (name_of_methodNamed Bd.named Bd.method).1
  have X0 : Stand p l e ({ frames := 0, cells := 0, slots := 0, locals := 0 } : Room) s m #[(.ref tb), (.int (Int32.ofNat i))] below meth c s₁ [] 0 0 := Stand.of_body Bd
  have e0 : s₁.heap = h0 := by rw [← hh, Bd.state]; rfl
  have N0 := Fr.nil n0
  show Rch p e below s₁ (entryFrame m #[(.ref tb), (.int (Int32.ofNat i))] 2) (fun U o => ∃ v L, o = .returned v ∧ Q_getc Z tb kb cs i fm h0 n0 v U.heap L ∧ FrameEnd s o U L ({ frames := 0, cells := 0, slots := 0, locals := 0 } : Room).cells ({ frames := 0, cells := 0, slots := 0, locals := 0 } : Room).slots)
  refine Rch.cast (ef_getc m tb (Int32.ofNat i)) ?_
  show Rch p e below s₁ (mkF m 0 #[vR tb, vI (Int32.ofNat i)] []) _
  have hcm : ¬ cs.getD i 0 < 0 ∧ ¬ (65535 : Int32) < cs.getD i 0 := by
    have e : cs.getD i 0 = cs[i] := by simp [List.getD_eq_getElem?_getD, hi]
    rw [e]; exact hbd _ (List.getElem_mem _)
  obtain ⟨T5, X5, e5, st5⟩ := getS2 X0 hx hZ hown (host := "") (Or.inl (wq hw 119 rfl)) Via.refl e0 B.2.1 (g := (mkF m 0 #[vR tb, vI (Int32.ofNat i)] [])) rfl (hb hby dgc_0)
  refine Rch.st st5 ?_
  show Rch p e below T5 (mkF m 3 #[vR tb, vI (Int32.ofNat i)] [(.int (1 : Int32))]) _
  refine Rch.st (fun _ k => XS.ifYes X5.here hx rfl (pc0 := 3) (pc' := 28) rfl (hb hby dgc_3) rfl (by decide : ifCond.holds .ne (1 : Int32) = true) (by decide) (by decide) k) ?_
  refine Rch.st (fun _ k => XS.iloadN X5.here hx rfl (hb hby dgc_28) rfl k) ?_
  show Rch p e below T5 (mkF m 29 #[vR tb, vI (Int32.ofNat i)] [(.int (Int32.ofNat i))]) _
  refine Rch.st (fun _ k => XS.iconst X5.here hx rfl (hb hby dgc_29)  k) ?_
  show Rch p e below T5 (mkF m 30 #[vR tb, vI (Int32.ofNat i)] [(.int (1 : Int32)), (.int (Int32.ofNat i))]) _
  refine Rch.st (fun _ k => XT.ishl X5.here hx rfl (hb hby dgc_30) rfl k) ?_
  show Rch p e below T5 (mkF m 31 #[vR tb, vI (Int32.ofNat i)] [(.int ((Int32.ofNat i) <<< ((1 : Int32) &&& 31)))]) _
  rw [shl1n (show 2 * i < 2 ^ 31 by omega)]
  show Rch p e below T5 (mkF m 31 #[vR tb, vI (Int32.ofNat i)] [(.int (Int32.ofNat (2 * i)))]) _
  refine Rch.st (fun _ k => XS.istoreN X5.here hx rfl (hb hby dgc_31) rfl (l' := #[vR tb, vI (Int32.ofNat (2 * i))]) rfl k) ?_
  refine Rch.st (fun _ k => XS.aloadN X5.here hx rfl (hb hby dgc_32) rfl rfl k) ?_
  show Rch p e below T5 (mkF m 33 #[vR tb, vI (Int32.ofNat (2 * i))] [(.ref tb)]) _
  refine Rch.st (fun _ k => XS.iloadN X5.here hx rfl (hb hby dgc_33) rfl k) ?_
  refine Rch.st (fun _ k => XS.iinc X5.here hx rfl (hb hby dgc_34) rfl (l' := #[vR tb, vI ((Int32.ofNat (2 * i)) + (1 : Int32))]) rfl k) ?_
  show Rch p e below T5 (mkF m 37 #[vR tb, vI ((Int32.ofNat (2 * i)) + (1 : Int32))] [(.int (Int32.ofNat (2 * i))), (.ref tb)]) _
  rw [add1n]
  show Rch p e below T5 (mkF m 37 #[vR tb, vI (Int32.ofNat (2 * i + 1))] [(.int (Int32.ofNat (2 * i))), (.ref tb)]) _
  refine Rch.st (balA X5 hx hZ e5 M ⟨ofN_neg (by omega), ofN_lt (by omega) (by omega)⟩ (v := (.int (StrChars.lo8 (cs.getD i 0)))) (by rw [ofN_clamp (by omega)]; exact StrChars.Road.wide_lo _ cs i hi) (g := (mkF m 37 #[vR tb, vI (Int32.ofNat (2 * i + 1))] [(.int (Int32.ofNat (2 * i))), (.ref tb)])) rfl rfl (hb hby dgc_37)) ?_
  show Rch p e below T5 (mkF m 38 #[vR tb, vI (Int32.ofNat (2 * i + 1))] [(.int (StrChars.lo8 (cs.getD i 0)))]) _
  refine Rch.st (fun _ k => XS.sipush X5.here hx rfl (hb hby dgc_38)  k) ?_
  refine Rch.st (fun _ k => XS.iand X5.here hx rfl (hb hby dgc_41) rfl k) ?_
  show Rch p e below T5 (mkF m 42 #[vR tb, vI (Int32.ofNat (2 * i + 1))] [(.int ((StrChars.lo8 (cs.getD i 0)) &&& (255 : Int32)))]) _
  obtain ⟨T6, X6, e6, st6⟩ := getS2 X5 hx hZ hown (host := "") (Or.inl (wq hw 120 rfl)) Via.refl e5 B.2.2.1 (g := (mkF m 42 #[vR tb, vI (Int32.ofNat (2 * i + 1))] [(.int ((StrChars.lo8 (cs.getD i 0)) &&& (255 : Int32)))])) rfl (hb hby dgc_42)
  refine Rch.st st6 ?_
  show Rch p e below T6 (mkF m 45 #[vR tb, vI (Int32.ofNat (2 * i + 1))] [(.int (0 : Int32)), (.int ((StrChars.lo8 (cs.getD i 0)) &&& (255 : Int32)))]) _
  refine Rch.st (fun _ k => XT.ishl X6.here hx rfl (hb hby dgc_45) rfl k) ?_
  show Rch p e below T6 (mkF m 46 #[vR tb, vI (Int32.ofNat (2 * i + 1))] [(.int (((StrChars.lo8 (cs.getD i 0)) &&& (255 : Int32)) <<< ((0 : Int32) &&& 31)))]) _
  refine Rch.st (fun _ k => XS.aloadN X6.here hx rfl (hb hby dgc_46) rfl rfl k) ?_
  refine Rch.st (fun _ k => XS.iloadN X6.here hx rfl (hb hby dgc_47) rfl k) ?_
  show Rch p e below T6 (mkF m 48 #[vR tb, vI (Int32.ofNat (2 * i + 1))] [(.int (Int32.ofNat (2 * i + 1))), (.ref tb), (.int (((StrChars.lo8 (cs.getD i 0)) &&& (255 : Int32)) <<< ((0 : Int32) &&& 31)))]) _
  refine Rch.st (balA X6 hx hZ e6 M ⟨ofN_neg (by omega), ofN_lt (by omega) (by omega)⟩ (v := (.int (StrChars.hi8 (cs.getD i 0)))) (by rw [ofN_clamp (by omega)]; exact StrChars.Road.wide_hi _ cs i hi) (g := (mkF m 48 #[vR tb, vI (Int32.ofNat (2 * i + 1))] [(.int (Int32.ofNat (2 * i + 1))), (.ref tb), (.int (((StrChars.lo8 (cs.getD i 0)) &&& (255 : Int32)) <<< ((0 : Int32) &&& 31)))])) rfl rfl (hb hby dgc_48)) ?_
  show Rch p e below T6 (mkF m 49 #[vR tb, vI (Int32.ofNat (2 * i + 1))] [(.int (StrChars.hi8 (cs.getD i 0))), (.int (((StrChars.lo8 (cs.getD i 0)) &&& (255 : Int32)) <<< ((0 : Int32) &&& 31)))]) _
  refine Rch.st (fun _ k => XS.sipush X6.here hx rfl (hb hby dgc_49)  k) ?_
  refine Rch.st (fun _ k => XS.iand X6.here hx rfl (hb hby dgc_52) rfl k) ?_
  show Rch p e below T6 (mkF m 53 #[vR tb, vI (Int32.ofNat (2 * i + 1))] [(.int ((StrChars.hi8 (cs.getD i 0)) &&& (255 : Int32))), (.int (((StrChars.lo8 (cs.getD i 0)) &&& (255 : Int32)) <<< ((0 : Int32) &&& 31)))]) _
  obtain ⟨T7, X7, e7, st7⟩ := getS2 X6 hx hZ hown (host := "") (Or.inl (wq hw 121 rfl)) Via.refl e6 B.2.2.2.1 (g := (mkF m 53 #[vR tb, vI (Int32.ofNat (2 * i + 1))] [(.int ((StrChars.hi8 (cs.getD i 0)) &&& (255 : Int32))), (.int (((StrChars.lo8 (cs.getD i 0)) &&& (255 : Int32)) <<< ((0 : Int32) &&& 31)))])) rfl (hb hby dgc_53)
  refine Rch.st st7 ?_
  show Rch p e below T7 (mkF m 56 #[vR tb, vI (Int32.ofNat (2 * i + 1))] [(.int (8 : Int32)), (.int ((StrChars.hi8 (cs.getD i 0)) &&& (255 : Int32))), (.int (((StrChars.lo8 (cs.getD i 0)) &&& (255 : Int32)) <<< ((0 : Int32) &&& 31)))]) _
  refine Rch.st (fun _ k => XT.ishl X7.here hx rfl (hb hby dgc_56) rfl k) ?_
  show Rch p e below T7 (mkF m 57 #[vR tb, vI (Int32.ofNat (2 * i + 1))] [(.int (((StrChars.hi8 (cs.getD i 0)) &&& (255 : Int32)) <<< ((8 : Int32) &&& 31))), (.int (((StrChars.lo8 (cs.getD i 0)) &&& (255 : Int32)) <<< ((0 : Int32) &&& 31)))]) _
  refine Rch.st (fun _ k => XT.ior X7.here hx rfl (hb hby dgc_57) rfl k) ?_
  show Rch p e below T7 (mkF m 58 #[vR tb, vI (Int32.ofNat (2 * i + 1))] [(.int ((((StrChars.lo8 (cs.getD i 0)) &&& (255 : Int32)) <<< ((0 : Int32) &&& 31)) ||| (((StrChars.hi8 (cs.getD i 0)) &&& (255 : Int32)) <<< ((8 : Int32) &&& 31))))]) _
  refine Rch.st (fun _ k => XT.i2c X7.here hx rfl (hb hby dgc_58) rfl k) ?_
  show Rch p e below T7 (mkF m 59 #[vR tb, vI (Int32.ofNat (2 * i + 1))] [(.int (((((StrChars.lo8 (cs.getD i 0)) &&& (255 : Int32)) <<< ((0 : Int32) &&& 31)) ||| (((StrChars.hi8 (cs.getD i 0)) &&& (255 : Int32)) <<< ((8 : Int32) &&& 31))).toUInt32.toUInt16.toUInt32.toInt32))]) _
  have ev : (((((StrChars.lo8 (cs.getD i 0)) &&& (255 : Int32)) <<< ((0 : Int32) &&& 31)) ||| (((StrChars.hi8 (cs.getD i 0)) &&& (255 : Int32)) <<< ((8 : Int32) &&& 31))).toUInt32.toUInt16.toUInt32.toInt32) = cs.getD i 0 := StrChars.pair_says hcm.1 hcm.2
  rw [ev]
  show Rch p e below T7 (mkF m 59 #[vR tb, vI (Int32.ofNat (2 * i + 1))] [(.int (cs.getD i 0))]) _
  exact Rch.fin (Q := Q_getc Z tb kb cs i fm h0 n0) X7 (v := some (.int (cs.getD i 0))) (fun h => by rw [Bd.returns] at h; cases h) (BodyLoose.notSynchronized Bd) (fun fs hr => retOut X7 hx Bd.returns (StrChars.narrow_ch hcm.1 hcm.2) (Or.inl ⟨rfl, by simp, _, rfl⟩) (hb hby dgc_59) hr) (by rw [e7]; exact ⟨rfl, N0, rfl⟩) (by decide) (by decide)
theorem dua_0 : decode jdk_52_method_83_code 0 = .ok (.iload_n 1, 1) := by decide +kernel
theorem dua_1 : decode jdk_52_method_83_code 1 = .ok (.aload_n 0, 1) := by decide +kernel
theorem dua_2 : decode jdk_52_method_83_code 2 = .ok (.invokestatic 67, 3) := by decide +kernel
theorem dua_5 : decode jdk_52_method_83_code 5 = .ok (.aload_n 0, 1) := by decide +kernel
theorem dua_6 : decode jdk_52_method_83_code 6 = .ok (.iload_n 1, 1) := by decide +kernel
theorem dua_7 : decode jdk_52_method_83_code 7 = .ok (.invokestatic 71, 3) := by decide +kernel
theorem dua_10 : decode jdk_52_method_83_code 10 = .ok (.ireturn, 1) := by decide +kernel
theorem pn_uch : plainFor (⟨"java/lang/StringUTF16", "charAt", "([BI)C"⟩ : MethodName) = true := by first | exact plainFor_of_name (by first | (simp [plainName, overriddenIn]; done) | decide +kernel) | exact Jvm.Free.JP.mathPlain rfl (by decide +kernel)
theorem ef_uch (m : MethodId) (x0 : Addr) (x1 : Int32) : entryFrame m #[(.ref x0), (.int x1)] 2 = mkF m 0 #[vR x0, vI x1] [] := by first | (simp [entryFrame, mkF, argsToLocals, Value.category]; done) | rfl
def Q_uch (Z : State) (tb : Addr) (kb : ClassId) (cs : List Int32) (i : Nat) (fm : Value) (h0 : Heap) (n0 : Nat) (v : Option Value) (h : Heap) (L : List Loc) : Prop := v = some (.int (cs.getD i 0)) ∧ Fr n0 L ∧ h = h0
set_option maxRecDepth 65536 in
set_option maxHeartbeats 40000000 in
theorem rm_uch (l : Launch) (Z : State) (a0 : Array Value) (hw : ∀ d ∈ tables_1, d.before a0 Z = true) (ws : List Jvm.Cond) (tb : Addr) (kb : ClassId) (cs : List Int32) (i : Nat) (fm : Value) (h0 : Heap) (n0 : Nat) (Z0 : n0 ≤ h0.size) (B : Bg Z h0 fm) (hbd : ∀ c ∈ cs, ¬ c < 0 ∧ ¬ (65535 : Int32) < c) (M : Arv Z h0 tb kb .byte (Int32.ofNat (2 * cs.length)) (StrChars.Road.wideBytes cs) (.int 0)) (hi : i < cs.length) (hl : cs.length ≤ 4000) :
    MetFree l (⟨"java/lang/StringUTF16", "charAt", "([BI)C"⟩ : MethodName) (head1 (Jvm.Cond.code (⟨"java/lang/StringUTF16", "charAt", "([BI)C"⟩ : MethodName) jdk_52_method_83_code 2 (some .char) :: ws) ({ frames := 3, cells := 0, slots := 0, locals := 40 } : Room)) (fun a U => a = #[(.ref tb), (.int (Int32.ofNat i))] ∧ Z.Warmed39 U.vm ∧ U.heap = h0) (fun _ _ _ _ _ => True) (fun _ U o U' => ∃ v L, o = .returned v ∧ Q_uch Z tb kb cs i fm h0 n0 v U'.heap L ∧ FrameEnd U o U' L ({ frames := 3, cells := 0, slots := 0, locals := 40 } : Room).cells ({ frames := 3, cells := 0, slots := 0, locals := 40 } : Room).slots) := by
  refine MetFree.of_bodySF pn_uch hisR ?_
  intro p e s m args below meth c s₁ Bd hml0 hP hK
  obtain ⟨rfl, hZ, hh⟩ := hP
  have hx := Bd.exec
  have hby := Bd.bytes
  have hml : c.maxLocals = 2 := hml0
  have hown : s.vm.findClass "java/lang/StringUTF16" = some m.cls := findClass_of_methodNamed Bd.named
  have hnm := (name_of_methodNamed Bd.named Bd.method).1
  have X0 : Stand p l e ({ frames := 3, cells := 0, slots := 0, locals := 40 } : Room) s m #[(.ref tb), (.int (Int32.ofNat i))] below meth c s₁ [] 0 0 := Stand.of_body Bd
  have e0 : s₁.heap = h0 := by rw [← hh, Bd.state]; rfl
  have N0 := Fr.nil n0
  show Rch p e below s₁ (entryFrame m #[(.ref tb), (.int (Int32.ofNat i))] 2) (fun U o => ∃ v L, o = .returned v ∧ Q_uch Z tb kb cs i fm h0 n0 v U.heap L ∧ FrameEnd s o U L ({ frames := 3, cells := 0, slots := 0, locals := 40 } : Room).cells ({ frames := 3, cells := 0, slots := 0, locals := 40 } : Room).slots)
  refine Rch.cast (ef_uch m tb (Int32.ofNat i)) ?_
  show Rch p e below s₁ (mkF m 0 #[vR tb, vI (Int32.ofNat i)] []) _
  have hcm : ¬ cs.getD i 0 < 0 ∧ ¬ (65535 : Int32) < cs.getD i 0 := by
    have e : cs.getD i 0 = cs[i] := by simp [List.getD_eq_getElem?_getD, hi]
    rw [e]; exact hbd _ (List.getElem_mem _)
  refine Rch.st (fun _ k => XS.iloadN X0.here hx rfl (hb hby dua_0) rfl k) ?_
  refine Rch.st (fun _ k => XS.aloadN X0.here hx rfl (hb hby dua_1) rfl rfl k) ?_
  show Rch p e below s₁ (mkF m 2 #[vR tb, vI (Int32.ofNat i)] [(.ref tb), (.int (Int32.ofNat i))]) _
  obtain ⟨_, _, ⟨T8, L8, k8, n8⟩, -, X8, ⟨Lc8, hQ8, l8, y8, z8⟩, st8⟩ := Jvm.LawKit.callS X0 hx (y := (⟨"java/lang/StringUTF16", "checkIndex", "(I[B)V"⟩ : MethodName)) hown (mvT hZ (wq hw 128 rfl)) (mvT hZ (wq hw 129 rfl)) (mvT hZ (wq hw 38 rfl)) (mvT hZ (wq hw 130 rfl)) (by decide) (backOf (W := 0) (rm_uchk l Z a0 hw [] tb kb cs i fm h0 n0 Z0 B M hi hl) hZ (wq hw 130 rfl) (wq hw 38 rfl) (by decide) (by decide)) (g := (mkF m 2 #[vR tb, vI (Int32.ofNat i)] [(.ref tb), (.int (Int32.ofNat i))])) rfl (by rw [hml]; rfl) (argsL := [(.int (Int32.ofNat i)), (.ref tb)]) (rest := []) (lenOf pd_3 rfl) rfl (by show 2 * 0 + _ ≤ _; exact Nat.le_of_eq rfl) (hb hby dua_2) (fun _ _ => ⟨rfl, e0, (by decide : 0 + 0 ≤ _), (by decide : 0 + 0 ≤ _)⟩)
  dsimp only [Pt.U, Pt.locs, Pt.cells, Pt.slots] at X8 l8 y8 z8 st8 hQ8
  subst l8 y8 z8
  obtain ⟨rfl, Nq8, e8⟩ := hQ8
  have N8 := Fr.app N0 Nq8
  refine Rch.st st8 ?_
  show Rch p e below T8 (mkF m 5 #[vR tb, vI (Int32.ofNat i)] []) _
  refine Rch.st (fun _ k => XS.aloadN X8.here hx rfl (hb hby dua_5) rfl rfl k) ?_
  refine Rch.st (fun _ k => XS.iloadN X8.here hx rfl (hb hby dua_6) rfl k) ?_
  show Rch p e below T8 (mkF m 7 #[vR tb, vI (Int32.ofNat i)] [(.int (Int32.ofNat i)), (.ref tb)]) _
  obtain ⟨_, _, ⟨T9, L9, k9, n9⟩, -, X9, ⟨Lc9, hQ9, l9, y9, z9⟩, st9⟩ := Jvm.LawKit.callS X8 hx (y := (⟨"java/lang/StringUTF16", "getChar", "([BI)C"⟩ : MethodName)) hown (mvT hZ (wq hw 122 rfl)) (mvT hZ (wq hw 123 rfl)) (mvT hZ (wq hw 38 rfl)) (mvT hZ (wq hw 124 rfl)) (by decide) (backOf (W := 0) (rm_getc l Z a0 hw [] tb kb cs i fm h0 n0 Z0 B hbd M hi hl) hZ (wq hw 124 rfl) (wq hw 38 rfl) (by decide) (by decide)) (g := (mkF m 7 #[vR tb, vI (Int32.ofNat i)] [(.int (Int32.ofNat i)), (.ref tb)])) rfl (by rw [hml]; rfl) (argsL := [(.ref tb), (.int (Int32.ofNat i))]) (rest := []) (lenOf pd_4 rfl) rfl (by show 2 * 0 + _ ≤ _; exact Nat.le_of_eq rfl) (hb hby dua_7) (fun _ _ => ⟨rfl, e8, (by decide : 0 + 0 ≤ _), (by decide : 0 + 0 ≤ _)⟩)
  dsimp only [Pt.U, Pt.locs, Pt.cells, Pt.slots] at X9 l9 y9 z9 st9 hQ9
  subst l9 y9 z9
  obtain ⟨rfl, Nq9, e9⟩ := hQ9
  have N9 := Fr.app N8 Nq9
  refine Rch.st st9 ?_
  show Rch p e below T9 (mkF m 10 #[vR tb, vI (Int32.ofNat i)] [(.int (cs.getD i 0))]) _
  exact Rch.fin (Q := Q_uch Z tb kb cs i fm h0 n0) X9 (v := some (.int (cs.getD i 0))) (fun h => by rw [Bd.returns] at h; cases h) (BodyLoose.notSynchronized Bd) (fun fs hr => retOut X9 hx Bd.returns (StrChars.narrow_ch hcm.1 hcm.2) (Or.inl ⟨rfl, by simp, _, rfl⟩) (hb hby dua_10) hr) (by rw [e9]; exact ⟨rfl, N9, rfl⟩) (by decide) (by decide)
theorem dil_0 : decode jdk_42_method_154_code 0 = .ok (.getstatic 38, 3) := by decide +kernel
theorem dil_3 : decode jdk_42_method_154_code 3 = .ok (.ifCond .eq 14, 3) := by decide +kernel
theorem dil_6 : decode jdk_42_method_154_code 6 = .ok (.aload_n 0, 1) := by decide +kernel
theorem dil_7 : decode jdk_42_method_154_code 7 = .ok (.getfield 15, 3) := by decide +kernel
theorem dil_10 : decode jdk_42_method_154_code 10 = .ok (.ifCond .ne 7, 3) := by decide +kernel
theorem dil_13 : decode jdk_42_method_154_code 13 = .ok (.iconst 1, 1) := by decide +kernel
theorem dil_14 : decode jdk_42_method_154_code 14 = .ok (.goto 4, 3) := by decide +kernel
theorem dil_17 : decode jdk_42_method_154_code 17 = .ok (.iconst 0, 1) := by decide +kernel
theorem dil_18 : decode jdk_42_method_154_code 18 = .ok (.ireturn, 1) := by decide +kernel
theorem pn_isl : plainFor (⟨"java/lang/String", "isLatin1", "()Z"⟩ : MethodName) = true := by first | exact plainFor_of_name (by first | (simp [plainName, overriddenIn]; done) | decide +kernel) | exact Jvm.Free.JP.mathPlain rfl (by decide +kernel)
theorem ef_isl (m : MethodId) (x0 : Addr) : entryFrame m #[(.ref x0)] 1 = mkF m 0 #[vR x0] [] := by first | (simp [entryFrame, mkF, argsToLocals, Value.category]; done) | rfl
def Q_isl (Z : State) (ta : Addr) (cd : Int32) (h0 : Heap) (n0 : Nat) (v : Option Value) (h : Heap) (L : List Loc) : Prop := ∃ r, v = some (.int r) ∧ Fr n0 L ∧ h = h0 ∧ (cd = 0 → r = 1) ∧ (¬ cd = 0 → r = 0)
set_option maxRecDepth 65536 in
set_option maxHeartbeats 40000000 in
theorem rm_isl (l : Launch) (Z : State) (a0 : Array Value) (hw : ∀ d ∈ tables_1, d.before a0 Z = true) (ws : List Jvm.Cond) (ta : Addr) (cd : Int32) (h0 : Heap) (n0 : Nat) (Z0 : n0 ≤ h0.size) (CS : Cmp Z h0) (F : Fld Z h0 ta "java/lang/String" "coder" "B" (.int cd)) :
    MetFree l (⟨"java/lang/String", "isLatin1", "()Z"⟩ : MethodName) (head1 (Jvm.Cond.code (⟨"java/lang/String", "isLatin1", "()Z"⟩ : MethodName) jdk_42_method_154_code 1 (some .boolean) :: ws) ({ frames := 0, cells := 0, slots := 0, locals := 0 } : Room)) (fun a U => a = #[(.ref ta)] ∧ Z.Warmed39 U.vm ∧ U.heap = h0) (fun _ _ _ _ _ => True) (fun _ U o U' => ∃ v L, o = .returned v ∧ Q_isl Z ta cd h0 n0 v U'.heap L ∧ FrameEnd U o U' L ({ frames := 0, cells := 0, slots := 0, locals := 0 } : Room).cells ({ frames := 0, cells := 0, slots := 0, locals := 0 } : Room).slots) := by
  refine MetFree.of_bodySF pn_isl hisR ?_
  intro p e s m args below meth c s₁ Bd hml0 hP hK
  obtain ⟨rfl, hZ, hh⟩ := hP
  have hx := Bd.exec
  have hby := Bd.bytes
  have hml : c.maxLocals = 1 := hml0
  have hown : s.vm.findClass "java/lang/String" = some m.cls := findClass_of_methodNamed Bd.named
  have hnm := (name_of_methodNamed Bd.named Bd.method).1
  have X0 : Stand p l e ({ frames := 0, cells := 0, slots := 0, locals := 0 } : Room) s m #[(.ref ta)] below meth c s₁ [] 0 0 := Stand.of_body Bd
  have e0 : s₁.heap = h0 := by rw [← hh, Bd.state]; rfl
  have N0 := Fr.nil n0
  show Rch p e below s₁ (entryFrame m #[(.ref ta)] 1) (fun U o => ∃ v L, o = .returned v ∧ Q_isl Z ta cd h0 n0 v U.heap L ∧ FrameEnd s o U L ({ frames := 0, cells := 0, slots := 0, locals := 0 } : Room).cells ({ frames := 0, cells := 0, slots := 0, locals := 0 } : Room).slots)
  refine Rch.cast (ef_isl m ta) ?_
  show Rch p e below s₁ (mkF m 0 #[vR ta] []) _
  obtain ⟨zc, Sz, hzc⟩ := id CS
  obtain ⟨T10, X10, e10, st10⟩ := getS2 X0 hx hZ hown (host := "") (Or.inl (wq hw 35 rfl)) Via.refl e0 Sz (g := (mkF m 0 #[vR ta] [])) rfl (hb hby dil_0)
  refine Rch.st st10 ?_
  show Rch p e below T10 (mkF m 3 #[vR ta] [(.int zc)]) _
  refine Rch.st (fun _ k => XS.ifNo X10.here hx rfl (hb hby dil_3) rfl ((if0 _ _).trans (feq hzc).1) k) ?_
  refine Rch.st (fun _ k => XS.aloadN X10.here hx rfl (hb hby dil_6) rfl rfl k) ?_
  show Rch p e below T10 (mkF m 7 #[vR ta] [(.ref ta)]) _
  obtain ⟨T11, X11, e11, st11⟩ := getF X10 hx hZ hown (host := "") (Or.inl (wq hw 21 rfl)) Via.refl e10 F (g := (mkF m 7 #[vR ta] [(.ref ta)])) rfl rfl (hb hby dil_7)
  refine Rch.st st11 ?_
  show Rch p e below T11 (mkF m 10 #[vR ta] [(.int cd)]) _
  by_cases hcd : cd = (0 : Int32)
  · skip
    refine Rch.st (fun _ k => XS.ifNo X11.here hx rfl (hb hby dil_10) rfl ((if0 _ _).trans (teq hcd).2) k) ?_
    refine Rch.st (fun _ k => XS.iconst X11.here hx rfl (hb hby dil_13)  k) ?_
    show Rch p e below T11 (mkF m 14 #[vR ta] [(.int (1 : Int32))]) _
    refine Rch.st (fun _ k => XS.goto X11.here hx rfl (pc0 := 14) (pc' := 18) rfl (hb hby dil_14) (by decide) (by decide) k) ?_
    show Rch p e below T11 (mkF m 18 #[vR ta] [(.int (1 : Int32))]) _
    exact Rch.fin (Q := Q_isl Z ta cd h0 n0) X11 (v := some (.int (1 : Int32))) (fun h => by rw [Bd.returns] at h; cases h) (BodyLoose.notSynchronized Bd) (fun fs hr => retN X11 hx (t := .boolean) Bd.returns (by simp) (hb hby dil_18) hr) (by rw [e11]; exact ⟨1, rfl, N0, rfl, fun _ => rfl, fun q => absurd hcd q⟩) (by decide) (by decide)
  · skip
    refine Rch.st (fun _ k => XS.ifYes X11.here hx rfl (pc0 := 10) (pc' := 17) rfl (hb hby dil_10) rfl ((if0 _ _).trans (feq hcd).2) (by decide) (by decide) k) ?_
    refine Rch.st (fun _ k => XS.iconst X11.here hx rfl (hb hby dil_17)  k) ?_
    show Rch p e below T11 (mkF m 18 #[vR ta] [(.int (0 : Int32))]) _
    exact Rch.fin (Q := Q_isl Z ta cd h0 n0) X11 (v := some (.int (0 : Int32))) (fun h => by rw [Bd.returns] at h; cases h) (BodyLoose.notSynchronized Bd) (fun fs hr => retN X11 hx (t := .boolean) Bd.returns (by simp) (hb hby dil_18) hr) (by rw [e11]; exact ⟨0, rfl, N0, rfl, fun q => absurd q hcd, fun _ => rfl⟩) (by decide) (by decide)
theorem dca_0 : decode jdk_42_method_56_code 0 = .ok (.aload_n 0, 1) := by decide +kernel
theorem dca_1 : decode jdk_42_method_56_code 1 = .ok (.invokevirtual 492, 3) := by decide +kernel
theorem dca_4 : decode jdk_42_method_56_code 4 = .ok (.ifCond .eq 12, 3) := by decide +kernel
theorem dca_7 : decode jdk_42_method_56_code 7 = .ok (.aload_n 0, 1) := by decide +kernel
theorem dca_8 : decode jdk_42_method_56_code 8 = .ok (.getfield 9, 3) := by decide +kernel
theorem dca_11 : decode jdk_42_method_56_code 11 = .ok (.iload_n 1, 1) := by decide +kernel
theorem dca_12 : decode jdk_42_method_56_code 12 = .ok (.invokestatic 495, 3) := by decide +kernel
theorem dca_15 : decode jdk_42_method_56_code 15 = .ok (.ireturn, 1) := by decide +kernel
theorem dca_16 : decode jdk_42_method_56_code 16 = .ok (.aload_n 0, 1) := by decide +kernel
theorem dca_17 : decode jdk_42_method_56_code 17 = .ok (.getfield 9, 3) := by decide +kernel
theorem dca_20 : decode jdk_42_method_56_code 20 = .ok (.iload_n 1, 1) := by decide +kernel
theorem dca_21 : decode jdk_42_method_56_code 21 = .ok (.invokestatic 498, 3) := by decide +kernel
theorem dca_24 : decode jdk_42_method_56_code 24 = .ok (.ireturn, 1) := by decide +kernel
theorem pn_chU : plainFor (⟨"java/lang/String", "charAt", "(I)C"⟩ : MethodName) = true := by first | exact plainFor_of_name (by first | (simp [plainName, overriddenIn]; done) | decide +kernel) | exact Jvm.Free.JP.mathPlain rfl (by decide +kernel)
theorem ef_chU (m : MethodId) (x0 : Addr) (x1 : Int32) : entryFrame m #[(.ref x0), (.int x1)] 2 = mkF m 0 #[vR x0, vI x1] [] := by first | (simp [entryFrame, mkF, argsToLocals, Value.category]; done) | rfl
def Q_chU (Z : State) (ta : Addr) (tb : Addr) (kb : ClassId) (cs : List Int32) (i : Nat) (fm : Value) (h0 : Heap) (n0 : Nat) (v : Option Value) (h : Heap) (L : List Loc) : Prop := v = some (.int (cs.getD i 0)) ∧ Fr n0 L ∧ h = h0
set_option maxRecDepth 65536 in
set_option maxHeartbeats 40000000 in
theorem rm_chU (l : Launch) (Z : State) (a0 : Array Value) (hw : ∀ d ∈ tables_1, d.before a0 Z = true) (ws : List Jvm.Cond) (ta : Addr) (tb : Addr) (kb : ClassId) (cs : List Int32) (i : Nat) (fm : Value) (h0 : Heap) (n0 : Nat) (Z0 : n0 ≤ h0.size) (B : Bg Z h0 fm) (E1 : Exa Z h0 ta "java/lang/String") (F1 : Fld Z h0 ta "java/lang/String" "value" "[B" (.ref tb)) (F2 : Fld Z h0 ta "java/lang/String" "coder" "B" (.int (1 : Int32))) (hbd : ∀ c ∈ cs, ¬ c < 0 ∧ ¬ (65535 : Int32) < c) (M : Arv Z h0 tb kb .byte (Int32.ofNat (2 * cs.length)) (StrChars.Road.wideBytes cs) (.int 0)) (hi : i < cs.length) (hl : cs.length ≤ 4000) :
    MetFree l (⟨"java/lang/String", "charAt", "(I)C"⟩ : MethodName) (head1 (Jvm.Cond.code (⟨"java/lang/String", "charAt", "(I)C"⟩ : MethodName) jdk_42_method_56_code 2 (some .char) :: ws) ({ frames := 4, cells := 0, slots := 0, locals := 53 } : Room)) (fun a U => a = #[(.ref ta), (.int (Int32.ofNat i))] ∧ Z.Warmed39 U.vm ∧ U.heap = h0) (fun _ _ _ _ _ => True) (fun _ U o U' => ∃ v L, o = .returned v ∧ Q_chU Z ta tb kb cs i fm h0 n0 v U'.heap L ∧ FrameEnd U o U' L ({ frames := 4, cells := 0, slots := 0, locals := 53 } : Room).cells ({ frames := 4, cells := 0, slots := 0, locals := 53 } : Room).slots) := by
  refine MetFree.of_bodySF pn_chU hisR ?_
  intro p e s m args below meth c s₁ Bd hml0 hP hK
  obtain ⟨rfl, hZ, hh⟩ := hP
  have hx := Bd.exec
  have hby := Bd.bytes
  have hml : c.maxLocals = 2 := hml0
  have hown : s.vm.findClass "java/lang/String" = some m.cls := findClass_of_methodNamed Bd.named
  have hnm := (name_of_methodNamed Bd.named Bd.method).1
  have X0 : Stand p l e ({ frames := 4, cells := 0, slots := 0, locals := 53 } : Room) s m #[(.ref ta), (.int (Int32.ofNat i))] below meth c s₁ [] 0 0 := Stand.of_body Bd
  have e0 : s₁.heap = h0 := by rw [← hh, Bd.state]; rfl
  have N0 := Fr.nil n0
  show Rch p e below s₁ (entryFrame m #[(.ref ta), (.int (Int32.ofNat i))] 2) (fun U o => ∃ v L, o = .returned v ∧ Q_chU Z ta tb kb cs i fm h0 n0 v U.heap L ∧ FrameEnd s o U L ({ frames := 4, cells := 0, slots := 0, locals := 53 } : Room).cells ({ frames := 4, cells := 0, slots := 0, locals := 53 } : Room).slots)
  refine Rch.cast (ef_chU m ta (Int32.ofNat i)) ?_
  show Rch p e below s₁ (mkF m 0 #[vR ta, vI (Int32.ofNat i)] []) _
  have hcm : ¬ cs.getD i 0 < 0 ∧ ¬ (65535 : Int32) < cs.getD i 0 := by
    have e : cs.getD i 0 = cs[i] := by simp [List.getD_eq_getElem?_getD, hi]
    rw [e]; exact hbd _ (List.getElem_mem _)
  refine Rch.st (fun _ k => XS.aloadN X0.here hx rfl (hb hby dca_0) rfl rfl k) ?_
  show Rch p e below s₁ (mkF m 1 #[vR ta, vI (Int32.ofNat i)] [(.ref ta)]) _
  obtain ⟨cq12, kq12, q12a, q12b, q12c⟩ := isOf hZ e0 E1
  obtain ⟨_, _, ⟨T12, L12, k12, n12⟩, -, X12, ⟨Lc12, hQ12, l12, y12, z12⟩, st12⟩ := X0.virtualBack hx (y := (⟨"java/lang/String", "isLatin1", "()Z"⟩ : MethodName)) (z := (⟨"java/lang/String", "isLatin1", "()Z"⟩ : MethodName)) hown (mvT hZ (wq hw 61 rfl)) (mvT hZ (wq hw 62 rfl)) (notFace_of_selects (args := #[]) (mvT hZ (wq hw 64 rfl))) (mvT hZ (wq hw 64 rfl)) (mvT hZ (wq hw 63 rfl)) (by decide) (backOf (W := 0) (rm_isl l Z a0 hw [] ta (1 : Int32) h0 n0 Z0 B.1 F2) hZ (wq hw 65 rfl) (wq hw 3 rfl) (by decide) (by decide)) q12a q12c (g := (mkF m 1 #[vR ta, vI (Int32.ofNat i)] [(.ref ta)])) rfl (by rw [hml]; rfl) (Steps.refl _) (argsL := []) (rest := []) (lenOf pd_5 rfl) rfl (by show 2 * 0 + _ ≤ _; exact Nat.le_of_eq rfl) (hb hby dca_1) (fun _ _ => ⟨rfl, e0, (by decide : 0 + 0 ≤ _), (by decide : 0 + 0 ≤ _)⟩)
  dsimp only [Pt.U, Pt.locs, Pt.cells, Pt.slots] at X12 l12 y12 z12 st12 hQ12
  subst l12 y12 z12
  obtain ⟨r12, rfl, Nq12, e12, u12, v12⟩ := hQ12
  have N12 := Fr.app N0 Nq12
  obtain rfl : r12 = 0 := v12 (by decide)
  refine Rch.go st12 ?_
  show Rch p e below T12 (mkF m 4 #[vR ta, vI (Int32.ofNat i)] [(.int (0 : Int32))]) _
  refine Rch.st (fun _ k => XS.ifYes X12.here hx rfl (pc0 := 4) (pc' := 16) rfl (hb hby dca_4) rfl (by decide : ifCond.holds .eq (0 : Int32) = true) (by decide) (by decide) k) ?_
  refine Rch.st (fun _ k => XS.aloadN X12.here hx rfl (hb hby dca_16) rfl rfl k) ?_
  show Rch p e below T12 (mkF m 17 #[vR ta, vI (Int32.ofNat i)] [(.ref ta)]) _
  obtain ⟨T13, X13, e13, st13⟩ := getF X12 hx hZ hown (host := "") (Or.inl (wq hw 20 rfl)) Via.refl e12 F1 (g := (mkF m 17 #[vR ta, vI (Int32.ofNat i)] [(.ref ta)])) rfl rfl (hb hby dca_17)
  refine Rch.st st13 ?_
  show Rch p e below T13 (mkF m 20 #[vR ta, vI (Int32.ofNat i)] [(.ref tb)]) _
  refine Rch.st (fun _ k => XS.iloadN X13.here hx rfl (hb hby dca_20) rfl k) ?_
  show Rch p e below T13 (mkF m 21 #[vR ta, vI (Int32.ofNat i)] [(.int (Int32.ofNat i)), (.ref tb)]) _
  obtain ⟨_, _, ⟨T14, L14, k14, n14⟩, -, X14, ⟨Lc14, hQ14, l14, y14, z14⟩, st14⟩ := Jvm.LawKit.callS X13 hx (y := (⟨"java/lang/StringUTF16", "charAt", "([BI)C"⟩ : MethodName)) hown (mvT hZ (wq hw 125 rfl)) (mvT hZ (wq hw 126 rfl)) (mvT hZ (wq hw 38 rfl)) (mvT hZ (wq hw 127 rfl)) (by decide) (backOf (W := 0) (rm_uch l Z a0 hw [] tb kb cs i fm h0 n0 Z0 B hbd M hi hl) hZ (wq hw 127 rfl) (wq hw 38 rfl) (by decide) (by decide)) (g := (mkF m 21 #[vR ta, vI (Int32.ofNat i)] [(.int (Int32.ofNat i)), (.ref tb)])) rfl (by rw [hml]; rfl) (argsL := [(.ref tb), (.int (Int32.ofNat i))]) (rest := []) (lenOf pd_4 rfl) rfl (by show 2 * 0 + _ ≤ _; exact Nat.le_of_eq rfl) (hb hby dca_21) (fun _ _ => ⟨rfl, e13, (by decide : 0 + 0 ≤ _), (by decide : 0 + 0 ≤ _)⟩)
  dsimp only [Pt.U, Pt.locs, Pt.cells, Pt.slots] at X14 l14 y14 z14 st14 hQ14
  subst l14 y14 z14
  obtain ⟨rfl, Nq14, e14⟩ := hQ14
  have N14 := Fr.app N12 Nq14
  refine Rch.st st14 ?_
  show Rch p e below T14 (mkF m 24 #[vR ta, vI (Int32.ofNat i)] [(.int (cs.getD i 0))]) _
  exact Rch.fin (Q := Q_chU Z ta tb kb cs i fm h0 n0) X14 (v := some (.int (cs.getD i 0))) (fun h => by rw [Bd.returns] at h; cases h) (BodyLoose.notSynchronized Bd) (fun fs hr => retOut X14 hx Bd.returns (StrChars.narrow_ch hcm.1 hcm.2) (Or.inl ⟨rfl, by simp, _, rfl⟩) (hb hby dca_24) hr) (by rw [e14]; exact ⟨rfl, N14, rfl⟩) (by decide) (by decide)
theorem ws_ch : ∀ d ∈ StrChars.Road.wordsChN, d ∈ tables_1 := by decide +kernel
theorem chS {p : Program} {l : Launch} {e : Env} {R : Room} {s : State} {args : Array Value} {below : List Frame} {len W : Nat} {Z : State} {a0 : Array Value} {h : Heap} (hZ : Z.Warmed39 s.vm) (hw : ∀ d ∈ tables_1, d.before a0 Z = true) {x : Addr} {cs : List Int32} {fm : Value} (A : StrA Z h x cs) (B : Bg Z h fm) (i : Nat) (hi : i < cs.length) (l1 : cs.length ≤ 4000) (n0 : Nat) (hn0 : n0 ≤ h.size) (hfr : 5 ≤ R.frames) (hlo : W + 66 ≤ R.locals) :
    Back l R p e below s args (⟨"java/lang/String", "charAt", "(I)C"⟩ : MethodName) len W (fun P a => a = #[.ref x, .int (Int32.ofNat i)] ∧ P.U.heap = h ∧ P.cells + 0 ≤ R.cells ∧ P.slots + 0 ≤ R.slots)
      (fun P _ v B => ∃ L, (v = some (.int (cs.getD i 0)) ∧ Fr n0 L ∧ B.U.heap = h) ∧ B.locs = P.locs ++ L ∧ B.cells = P.cells + 0 ∧ B.slots = P.slots + 0) := by
  obtain ⟨t, kb, cd, N2, vs, a1, a2, a3, a4, a5, a6⟩ := A
  obtain ⟨⟨z, S, hz⟩, -, -, -, S4, hf⟩ := id B
  rcases a5 with ⟨rfl, rfl, rfl, q⟩ | ⟨rfl, rfl, rfl, q⟩
  · refine Back.mono (StrChars.Road.chN hZ (fun d hd => hw d (ws_ch d hd)) (kI := 4) (wq hw 2 rfl) a1 a2 a3 a4 (Or.inl ⟨rfl, rfl, rfl, q⟩) a6 S hz S4 hf l1 hi rfl (by omega) (by omega)) (fun _ _ hp => hp) (fun P a v B _ hq => ?_)
    obtain ⟨L, ⟨q1, q2, q3⟩, r⟩ := hq
    exact ⟨L, ⟨q1, by rw [q2]; exact Fr.nil n0, q3⟩, r⟩
  · exact backOf (W := W) (rm_chU l Z a0 hw [] x t kb cs i fm h n0 hn0 B a1 a2 a3 a6 a4 hi l1) hZ (wq hw 60 rfl) (wq hw 3 rfl) (by show 4 + 1 ≤ _; omega) (by show W + (2 + 11) + 53 ≤ _; omega)

theorem dn4_0 : decode jdk_42_method_149_code 0 = .ok (.aload_n 0, 1) := by decide +kernel
theorem dn4_1 : decode jdk_42_method_149_code 1 = .ok (.invokespecial 1, 3) := by decide +kernel
theorem dn4_4 : decode jdk_42_method_149_code 4 = .ok (.iload_n 3, 1) := by decide +kernel
theorem dn4_5 : decode jdk_42_method_149_code 5 = .ok (.ifCond .ne 22, 3) := by decide +kernel
theorem dn4_8 : decode jdk_42_method_149_code 8 = .ok (.aload_n 0, 1) := by decide +kernel
theorem dn4_9 : decode jdk_42_method_149_code 9 = .ok (.ldc 7, 2) := by decide +kernel
theorem dn4_11 : decode jdk_42_method_149_code 11 = .ok (.getfield 9, 3) := by decide +kernel
theorem dn4_14 : decode jdk_42_method_149_code 14 = .ok (.putfield 9, 3) := by decide +kernel
theorem dn4_17 : decode jdk_42_method_149_code 17 = .ok (.aload_n 0, 1) := by decide +kernel
theorem dn4_18 : decode jdk_42_method_149_code 18 = .ok (.ldc 7, 2) := by decide +kernel
theorem dn4_20 : decode jdk_42_method_149_code 20 = .ok (.getfield 15, 3) := by decide +kernel
theorem dn4_23 : decode jdk_42_method_149_code 23 = .ok (.putfield 15, 3) := by decide +kernel
theorem dn4_26 : decode jdk_42_method_149_code 26 = .ok (.return_, 1) := by decide +kernel
theorem dn4_27 : decode jdk_42_method_149_code 27 = .ok (.getstatic 38, 3) := by decide +kernel
theorem dn4_30 : decode jdk_42_method_149_code 30 = .ok (.ifCond .eq 28, 3) := by decide +kernel
theorem dn4_33 : decode jdk_42_method_149_code 33 = .ok (.aload_n 1, 1) := by decide +kernel
theorem dn4_34 : decode jdk_42_method_149_code 34 = .ok (.iload_n 2, 1) := by decide +kernel
theorem dn4_35 : decode jdk_42_method_149_code 35 = .ok (.iload_n 3, 1) := by decide +kernel
theorem dn4_36 : decode jdk_42_method_149_code 36 = .ok (.invokestatic 177, 3) := by decide +kernel
theorem dn4_39 : decode jdk_42_method_149_code 39 = .ok (.astore 5, 2) := by decide +kernel
theorem dn4_41 : decode jdk_42_method_149_code 41 = .ok (.aload_n 0, 1) := by decide +kernel
theorem dn4_42 : decode jdk_42_method_149_code 42 = .ok (.aload 5, 2) := by decide +kernel
theorem dn4_44 : decode jdk_42_method_149_code 44 = .ok (.iload_n 3, 1) := by decide +kernel
theorem dn4_45 : decode jdk_42_method_149_code 45 = .ok (.invokestatic 47, 3) := by decide +kernel
theorem dn4_48 : decode jdk_42_method_149_code 48 = .ok (.putfield 15, 3) := by decide +kernel
theorem dn4_51 : decode jdk_42_method_149_code 51 = .ok (.aload_n 0, 1) := by decide +kernel
theorem dn4_52 : decode jdk_42_method_149_code 52 = .ok (.aload 5, 2) := by decide +kernel
theorem dn4_54 : decode jdk_42_method_149_code 54 = .ok (.putfield 9, 3) := by decide +kernel
theorem dn4_57 : decode jdk_42_method_149_code 57 = .ok (.return_, 1) := by decide +kernel
theorem dn4_58 : decode jdk_42_method_149_code 58 = .ok (.aload_n 0, 1) := by decide +kernel
theorem dn4_59 : decode jdk_42_method_149_code 59 = .ok (.iconst 1, 1) := by decide +kernel
theorem dn4_60 : decode jdk_42_method_149_code 60 = .ok (.putfield 15, 3) := by decide +kernel
theorem dn4_63 : decode jdk_42_method_149_code 63 = .ok (.aload_n 0, 1) := by decide +kernel
theorem dn4_64 : decode jdk_42_method_149_code 64 = .ok (.aload_n 1, 1) := by decide +kernel
theorem dn4_65 : decode jdk_42_method_149_code 65 = .ok (.iload_n 2, 1) := by decide +kernel
theorem dn4_66 : decode jdk_42_method_149_code 66 = .ok (.iload_n 3, 1) := by decide +kernel
theorem dn4_67 : decode jdk_42_method_149_code 67 = .ok (.invokestatic 180, 3) := by decide +kernel
theorem dn4_70 : decode jdk_42_method_149_code 70 = .ok (.putfield 9, 3) := by decide +kernel
theorem dn4_73 : decode jdk_42_method_149_code 73 = .ok (.return_, 1) := by decide +kernel
theorem pn_new4e : plainFor (⟨"java/lang/String", "<init>", "([CIILjava/lang/Void;)V"⟩ : MethodName) = true := by first | exact plainFor_of_name (by first | (simp [plainName, overriddenIn]; done) | decide +kernel) | exact Jvm.Free.JP.mathPlain rfl (by decide +kernel)
theorem ef_new4e (m : MethodId) (x0 : Addr) (x1 : Addr) (x2 : Int32) (x3 : Int32) : entryFrame m #[(.ref x0), (.ref x1), (.int x2), (.int x3), .null] 6 = mkF m 0 #[vR x0, vR x1, vI x2, vI x3, .val .null, .unset] [] := by first | (simp [entryFrame, mkF, argsToLocals, Value.category]; done) | rfl
def Q_new4e (Z : State) (ta tb : Addr) (h0 : Heap) (n0 : Nat) (v : Option Value) (h : Heap) (L : List Loc) : Prop := v = none ∧ Fr n0 L ∧ Keep h0 h [ta] ∧ StrA Z h ta []
set_option maxRecDepth 65536 in
set_option maxHeartbeats 40000000 in
theorem rm_new4e (l : Launch) (Z : State) (a0 : Array Value) (hw : ∀ d ∈ tables_1, d.before a0 Z = true) (ws : List Jvm.Cond) (ta tb : Addr) (h0 : Heap) (n0 : Nat) (Z0 : n0 ≤ h0.size) (hthis : n0 ≤ ta) (E1 : Exa Z h0 ta "java/lang/String") (F1 : Fld Z h0 ta "java/lang/String" "value" "[B" .null) (F2 : Fld Z h0 ta "java/lang/String" "coder" "B" (.int (0 : Int32))) :
    MetFree l (⟨"java/lang/String", "<init>", "([CIILjava/lang/Void;)V"⟩ : MethodName) (head1 (Jvm.Cond.code (⟨"java/lang/String", "<init>", "([CIILjava/lang/Void;)V"⟩ : MethodName) jdk_42_method_149_code 6 none :: ws) ({ frames := 1, cells := 4, slots := 8, locals := 12 } : Room)) (fun a U => a = #[(.ref ta), (.ref tb), (.int (0 : Int32)), (.int (0 : Int32)), .null] ∧ Z.Warmed39 U.vm ∧ U.heap = h0 ∧ CHv Z EL U.vm h0) (fun _ _ _ _ _ => True) (fun _ U o U' => ∃ v L, o = .returned v ∧ Q_new4e Z ta tb h0 n0 v U'.heap L ∧ CHr Z EL U.vm U.heap U'.vm U'.heap ∧ ReturnedEndW U o U' L ({ frames := 1, cells := 4, slots := 8, locals := 12 } : Room).cells ({ frames := 1, cells := 4, slots := 8, locals := 12 } : Room).slots) := by
  refine MetFree.of_bodySF pn_new4e hisR ?_
  intro p e s m args below meth c s₁ Bd hml0 hP hK
  obtain ⟨rfl, hZ, hh, H0⟩ := hP
  have hx := Bd.exec
  have hby := Bd.bytes
  have hml : c.maxLocals = 6 := hml0
  have hown : s.vm.findClass "java/lang/String" = some m.cls := findClass_of_methodNamed Bd.named
  have hnm := (name_of_methodNamed Bd.named Bd.method).1
  have X0 : Stand p l e ({ frames := 1, cells := 4, slots := 8, locals := 12 } : Room) (s.setVm s.vm) m #[(.ref ta), (.ref tb), (.int (0 : Int32)), (.int (0 : Int32)), .null] below meth c s₁ [] 0 0 := Stand.of_body Bd
  have e0 : s₁.heap = h0 := by rw [← hh, Bd.state]; rfl
  have N0 := Fr.nil n0
  have hS0 : s.Since s.vm 0 := (State.WarmedH.refl s).since _
  have R0 : CHr Z EL s.vm s.heap s.vm h0 := by rw [hh]; exact CHr.refl H0
  have hZ : Z.Warmed39 (s.setVm s.vm).vm := hZ
  have hown : (s.setVm s.vm).vm.findClass "java/lang/String" = some m.cls := hown
  have hEL := ew hw
  have wS : ∀ d ∈ Bundle.stringAtoms, d.before a0 Z = true := fun d hd => hw d (ws_lit d hd)
  show Rch p e below s₁ (entryFrame m #[(.ref ta), (.ref tb), (.int (0 : Int32)), (.int (0 : Int32)), .null] 6) (fun U o => ∃ v L, o = .returned v ∧ Q_new4e Z ta tb h0 n0 v U.heap L ∧ CHr Z EL s.vm s.heap U.vm U.heap ∧ ReturnedEndW s o U L ({ frames := 1, cells := 4, slots := 8, locals := 12 } : Room).cells ({ frames := 1, cells := 4, slots := 8, locals := 12 } : Room).slots)
  refine Rch.cast (ef_new4e m ta tb (0 : Int32) (0 : Int32)) ?_
  show Rch p e below s₁ (mkF m 0 #[vR ta, vR tb, vI (0 : Int32), vI (0 : Int32), .val .null, .unset] []) _
  have hsl : Jvm.RoadKit.slotOf Z "java/lang/String" "value" "[B" ≠ Jvm.RoadKit.slotOf Z "java/lang/String" "coder" "B" := slot_ne (C := "java/lang/String") (Or.inr (wq hw 16 rfl)) (Or.inr (wq hw 17 rfl)) (by decide) (t := .array .byte) (t' := .byte) (by decide) (by decide)
  refine Rch.st (fun _ k => XS.aloadN X0.here hx rfl (hb hby dn4_0) rfl rfl k) ?_
  show Rch p e below s₁ (mkF m 1 #[vR ta, vR tb, vI (0 : Int32), vI (0 : Int32), .val .null, .unset] [(.ref ta)]) _
  obtain ⟨T15, X15, e15, st15⟩ := initO X0 hx hZ hown (wq hw 11 rfl) (wq hw 12 rfl) (wq hw 13 rfl) e0 (g := (mkF m 1 #[vR ta, vR tb, vI (0 : Int32), vI (0 : Int32), .val .null, .unset] [(.ref ta)])) rfl (by rw [hml]; rfl) rfl (hb hby dn4_1) (by decide) (W := 0) (by show 2 * 0 + _ ≤ _; exact Nat.le_of_eq rfl) (by decide)
  refine Rch.st st15 ?_
  show Rch p e below T15 (mkF m 4 #[vR ta, vR tb, vI (0 : Int32), vI (0 : Int32), .val .null, .unset] []) _
  refine Rch.st (fun _ k => XS.iloadN X15.here hx rfl (hb hby dn4_4) rfl k) ?_
  refine Rch.st (fun _ k => XS.ifNo X15.here hx rfl (hb hby dn4_5) rfl (by decide : ifCond.holds .ne (0 : Int32) = false) k) ?_
  show Rch p e below T15 (mkF m 8 #[vR ta, vR tb, vI (0 : Int32), vI (0 : Int32), .val .null, .unset] []) _
  refine Rch.st (fun _ k => XS.aloadN X15.here hx rfl (hb hby dn4_8) rfl rfl k) ?_
  show Rch p e below T15 (mkF m 9 #[vR ta, vR tb, vI (0 : Int32), vI (0 : Int32), .val .null, .unset] [(.ref ta)]) _
  obtain ⟨a16, T16, h16, kk16, b16, kb16, X16, e16, E16, hS16, hk16, hZ16, hown16, EX16, CO16, VA16, AR16, la16, lb16, CR16, LT16, SF16, st16⟩ := ldcCH X15 hx hZ hown (wq hw 14 rfl) wS e15 hS0 (Nat.zero_le _) hEL (by simp [EL]) R0.1 (vs := ([] : List Int32).map (fun c => Value.int c.toInt8.toInt32)) (z := (0 : Int32)) ⟨by decide, by decide⟩ (by decide) rfl (g := (mkF m 9 #[vR ta, vR tb, vI (0 : Int32), vI (0 : Int32), .val .null, .unset] [(.ref ta)])) rfl (hb hby dn4_9) (n := 0) (by decide) (by decide) (by decide) (by decide)
  have Ex17 : Ext h0 h16 := E16
  have R16 := R0.trans CR16
  have Q16 : StrA Z h16 a16 ([] : List Int32) := strOf (n := 0) rfl rfl (by decide) EX16 VA16 CO16 (by rw [List.map_map]; exact AR16)
  refine Rch.st st16 ?_
  show Rch p e below T16 (mkF m 11 #[vR ta, vR tb, vI (0 : Int32), vI (0 : Int32), .val .null, .unset] [(.ref a16), (.ref ta)]) _
  have E2 := E1.ext Ex17
  have F3 := F1.ext Ex17
  have F4 := F2.ext Ex17
  have S0 : Safe Z EL T16.vm h16 ta := Safe.blank (State.Warmed39.alike hZ16) E2 F3
  obtain ⟨T18, X18, e18, st18⟩ := getF X16 hx hZ16 hown16 (host := "") (Or.inl (wq hw 20 rfl)) Via.refl e16 VA16 (g := (mkF m 11 #[vR ta, vR tb, vI (0 : Int32), vI (0 : Int32), .val .null, .unset] [(.ref a16), (.ref ta)])) rfl rfl (hb hby dn4_11)
  refine Rch.st st18 ?_
  show Rch p e below T18 (mkF m 14 #[vR ta, vR tb, vI (0 : Int32), vI (0 : Int32), .val .null, .unset] [(.ref b16), (.ref ta)]) _
  obtain ⟨T19, h19, X19, e19, W19, st19⟩ := putF X18 hx hZ16 hown16 (host := "") (Or.inl (wq hw 20 rfl)) Via.refl e18 F3 E2 (Or.inr ⟨(wq hw 16 rfl), rfl, hnm⟩) (wq hw 2 rfl) (ty := (.array .byte)) (by decide) rfl rfl (g := (mkF m 14 #[vR ta, vR tb, vI (0 : Int32), vI (0 : Int32), .val .null, .unset] [(.ref b16), (.ref ta)])) rfl rfl (hb hby dn4_14)
  have N19 := Fr.snoc X19 N0 hthis
  refine Rch.st st19 ?_
  show Rch p e below T19 (mkF m 17 #[vR ta, vR tb, vI (0 : Int32), vI (0 : Int32), .val .null, .unset] []) _
  have ne1 : ta ≠ b16 := E2.neArv AR16 (wq hw 2 rfl)
  have E5 := E2.wr W19
  have F5 := F3.same W19
  have F6 := F4.other W19 (Or.inr (Ne.symm hsl))
  have A5 := AR16.other W19 (Ne.symm ne1)
  have S1 := Safe.wr W19 S0 R16.1 S0
  have R20 := R16.trans (CHr.wr W19 S0 R16.1)
  have hk20 := Nat.le_trans hk16 (Keep.of_wr W19).1
  refine Rch.st (fun _ k => XS.aloadN X19.here hx rfl (hb hby dn4_17) rfl rfl k) ?_
  show Rch p e below T19 (mkF m 18 #[vR ta, vR tb, vI (0 : Int32), vI (0 : Int32), .val .null, .unset] [(.ref ta)]) _
  obtain ⟨a21, T21, h21, kk21, b21, kb21, X21, e21, E21, hS21, hk21, hZ21, hown21, EX21, CO21, VA21, AR21, la21, lb21, CR21, LT21, SF21, st21⟩ := ldcCH X19 hx hZ16 hown16 (wq hw 14 rfl) wS e19 hS16 hk20 hEL (by simp [EL]) R20.1 (vs := ([] : List Int32).map (fun c => Value.int c.toInt8.toInt32)) (z := (0 : Int32)) ⟨by decide, by decide⟩ (by decide) rfl (g := (mkF m 18 #[vR ta, vR tb, vI (0 : Int32), vI (0 : Int32), .val .null, .unset] [(.ref ta)])) rfl (hb hby dn4_18) (n := 0) (by decide) (by decide) (by decide) (by decide)
  have Ex22 : Ext h19 h21 := E21
  have R21 := R20.trans CR21
  have Q21 : StrA Z h21 a21 ([] : List Int32) := strOf (n := 0) rfl rfl (by decide) EX21 VA21 CO21 (by rw [List.map_map]; exact AR21)
  refine Rch.st st21 ?_
  show Rch p e below T21 (mkF m 20 #[vR ta, vR tb, vI (0 : Int32), vI (0 : Int32), .val .null, .unset] [(.ref a21), (.ref ta)]) _
  have S2 := CR21.safe E5.lt S1
  have E7 := E5.ext Ex22
  have F7 := F5.ext Ex22
  have F8 := F6.ext Ex22
  have A7 := A5.ext Ex22
  obtain ⟨T23, X23, e23, st23⟩ := getF X21 hx hZ21 hown21 (host := "") (Or.inl (wq hw 21 rfl)) Via.refl e21 CO21 (g := (mkF m 20 #[vR ta, vR tb, vI (0 : Int32), vI (0 : Int32), .val .null, .unset] [(.ref a21), (.ref ta)])) rfl rfl (hb hby dn4_20)
  refine Rch.st st23 ?_
  show Rch p e below T23 (mkF m 23 #[vR ta, vR tb, vI (0 : Int32), vI (0 : Int32), .val .null, .unset] [(.int (0 : Int32)), (.ref ta)]) _
  obtain ⟨T24, h24, X24, e24, W24, st24⟩ := putF X23 hx hZ21 hown21 (host := "") (Or.inl (wq hw 21 rfl)) Via.refl e23 F8 E7 (Or.inr ⟨(wq hw 17 rfl), rfl, hnm⟩) (wq hw 2 rfl) (ty := .byte) (by decide) rfl rfl (g := (mkF m 23 #[vR ta, vR tb, vI (0 : Int32), vI (0 : Int32), .val .null, .unset] [(.int (0 : Int32)), (.ref ta)])) rfl rfl (hb hby dn4_23)
  have N24 := Fr.snoc X24 N19 hthis
  refine Rch.st st24 ?_
  show Rch p e below T24 (mkF m 26 #[vR ta, vR tb, vI (0 : Int32), vI (0 : Int32), .val .null, .unset] []) _
  have R25 := R21.trans (CHr.wr W24 S2 R21.1)
  have hk25 := Nat.le_trans hk21 (Keep.of_wr W24).1
  have K9 : Keep h0 h24 [ta] := ((((Keep.refl h0 [ta]).ext Ex17).wr W19 (Or.inl (List.mem_singleton.mpr rfl))).ext Ex22).wr W24 (Or.inl (List.mem_singleton.mpr rfl))
  have S9 : StrA Z h24 ta [] := strOf (n := 0) rfl rfl c8_nil (E7.wr W24) (F7.other W24 (Or.inr hsl)) (F8.same W24) (A7.other W24 (Ne.symm ne1))
  exact Rch.finW (Q := Q_new4e Z ta tb h0 n0) X24 hZ21 hEL hS21 (by rw [e24]; exact hk25) e24 R25 (v := none) (fun _ => rfl) (BodyLoose.notSynchronized Bd) (fun fs hr => X24.returnOut hx Bd.returns (hb hby dn4_26) hr) (by rw [e24]; exact ⟨rfl, N24, K9, S9⟩) (by decide) (by decide)
theorem dn1_0 : decode jdk_42_method_3_code 0 = .ok (.aload_n 0, 1) := by decide +kernel
theorem dn1_1 : decode jdk_42_method_3_code 1 = .ok (.aload_n 1, 1) := by decide +kernel
theorem dn1_2 : decode jdk_42_method_3_code 2 = .ok (.iconst 0, 1) := by decide +kernel
theorem dn1_3 : decode jdk_42_method_3_code 3 = .ok (.aload_n 1, 1) := by decide +kernel
theorem dn1_4 : decode jdk_42_method_3_code 4 = .ok (.arraylength, 1) := by decide +kernel
theorem dn1_5 : decode jdk_42_method_3_code 5 = .ok (.aconst_null, 1) := by decide +kernel
theorem dn1_6 : decode jdk_42_method_3_code 6 = .ok (.invokespecial 27, 3) := by decide +kernel
theorem dn1_9 : decode jdk_42_method_3_code 9 = .ok (.return_, 1) := by decide +kernel
theorem pn_new1e : plainFor (⟨"java/lang/String", "<init>", "([C)V"⟩ : MethodName) = true := by first | exact plainFor_of_name (by first | (simp [plainName, overriddenIn]; done) | decide +kernel) | exact Jvm.Free.JP.mathPlain rfl (by decide +kernel)
theorem ef_new1e (m : MethodId) (x0 : Addr) (x1 : Addr) : entryFrame m #[(.ref x0), (.ref x1)] 2 = mkF m 0 #[vR x0, vR x1] [] := by first | (simp [entryFrame, mkF, argsToLocals, Value.category]; done) | rfl
def Q_new1e (Z : State) (ta tb : Addr) (kc : ClassId) (h0 : Heap) (n0 : Nat) (v : Option Value) (h : Heap) (L : List Loc) : Prop := v = none ∧ Fr n0 L ∧ Keep h0 h [ta] ∧ StrA Z h ta []
set_option maxRecDepth 65536 in
set_option maxHeartbeats 40000000 in
theorem rm_new1e (l : Launch) (Z : State) (a0 : Array Value) (hw : ∀ d ∈ tables_1, d.before a0 Z = true) (ws : List Jvm.Cond) (ta tb : Addr) (kc : ClassId) (h0 : Heap) (n0 : Nat) (Z0 : n0 ≤ h0.size) (hthis : n0 ≤ ta) (E1 : Exa Z h0 ta "java/lang/String") (F1 : Fld Z h0 ta "java/lang/String" "value" "[B" .null) (F2 : Fld Z h0 ta "java/lang/String" "coder" "B" (.int (0 : Int32))) (M : Arv Z h0 tb kc .char (0 : Int32) [] (.int (0 : Int32))) :
    MetFree l (⟨"java/lang/String", "<init>", "([C)V"⟩ : MethodName) (head1 (Jvm.Cond.code (⟨"java/lang/String", "<init>", "([C)V"⟩ : MethodName) jdk_42_method_3_code 2 none :: ws) ({ frames := 2, cells := 4, slots := 8, locals := 29 } : Room)) (fun a U => a = #[(.ref ta), (.ref tb)] ∧ Z.Warmed39 U.vm ∧ U.heap = h0 ∧ CHv Z EL U.vm h0) (fun _ _ _ _ _ => True) (fun _ U o U' => ∃ v L, o = .returned v ∧ Q_new1e Z ta tb kc h0 n0 v U'.heap L ∧ CHr Z EL U.vm U.heap U'.vm U'.heap ∧ ReturnedEndW U o U' L ({ frames := 2, cells := 4, slots := 8, locals := 29 } : Room).cells ({ frames := 2, cells := 4, slots := 8, locals := 29 } : Room).slots) := by
  refine MetFree.of_bodySF pn_new1e hisR ?_
  intro p e s m args below meth c s₁ Bd hml0 hP hK
  obtain ⟨rfl, hZ, hh, H0⟩ := hP
  have hx := Bd.exec
  have hby := Bd.bytes
  have hml : c.maxLocals = 2 := hml0
  have hown : s.vm.findClass "java/lang/String" = some m.cls := findClass_of_methodNamed Bd.named
  have hnm := (name_of_methodNamed Bd.named Bd.method).1
  have X0 : Stand p l e ({ frames := 2, cells := 4, slots := 8, locals := 29 } : Room) (s.setVm s.vm) m #[(.ref ta), (.ref tb)] below meth c s₁ [] 0 0 := Stand.of_body Bd
  have e0 : s₁.heap = h0 := by rw [← hh, Bd.state]; rfl
  have N0 := Fr.nil n0
  have hS0 : s.Since s.vm 0 := (State.WarmedH.refl s).since _
  have R0 : CHr Z EL s.vm s.heap s.vm h0 := by rw [hh]; exact CHr.refl H0
  have hZ : Z.Warmed39 (s.setVm s.vm).vm := hZ
  have hown : (s.setVm s.vm).vm.findClass "java/lang/String" = some m.cls := hown
  have hEL := ew hw
  have wS : ∀ d ∈ Bundle.stringAtoms, d.before a0 Z = true := fun d hd => hw d (ws_lit d hd)
  show Rch p e below s₁ (entryFrame m #[(.ref ta), (.ref tb)] 2) (fun U o => ∃ v L, o = .returned v ∧ Q_new1e Z ta tb kc h0 n0 v U.heap L ∧ CHr Z EL s.vm s.heap U.vm U.heap ∧ ReturnedEndW s o U L ({ frames := 2, cells := 4, slots := 8, locals := 29 } : Room).cells ({ frames := 2, cells := 4, slots := 8, locals := 29 } : Room).slots)
  refine Rch.cast (ef_new1e m ta tb) ?_
  show Rch p e below s₁ (mkF m 0 #[vR ta, vR tb] []) _
  refine Rch.st (fun _ k => XS.aloadN X0.here hx rfl (hb hby dn1_0) rfl rfl k) ?_
  refine Rch.st (fun _ k => XS.aloadN X0.here hx rfl (hb hby dn1_1) rfl rfl k) ?_
  show Rch p e below s₁ (mkF m 2 #[vR ta, vR tb] [(.ref tb), (.ref ta)]) _
  refine Rch.st (fun _ k => XS.iconst X0.here hx rfl (hb hby dn1_2)  k) ?_
  refine Rch.st (fun _ k => XS.aloadN X0.here hx rfl (hb hby dn1_3) rfl rfl k) ?_
  show Rch p e below s₁ (mkF m 4 #[vR ta, vR tb] [(.ref tb), (.int (0 : Int32)), (.ref tb), (.ref ta)]) _
  refine Rch.st (alenA X0 hx hZ e0 M.arh (g := (mkF m 4 #[vR ta, vR tb] [(.ref tb), (.int (0 : Int32)), (.ref tb), (.ref ta)])) rfl rfl (hb hby dn1_4)) ?_
  show Rch p e below s₁ (mkF m 5 #[vR ta, vR tb] [(.int (0 : Int32)), (.int (0 : Int32)), (.ref tb), (.ref ta)]) _
  refine Rch.st (fun _ k => XS.aconstNull X0.here hx rfl (hb hby dn1_5)  k) ?_
  show Rch p e below s₁ (mkF m 6 #[vR ta, vR tb] [.null, (.int (0 : Int32)), (.int (0 : Int32)), (.ref tb), (.ref ta)]) _
  obtain ⟨_, _, ⟨T26, L26, k26, n26⟩, -, X26_, hS26_, hg26_, ⟨Lc26, hQ26, l26, y26, z26, CR26⟩, st26⟩ := X0.specialBackS hx (y := (⟨"java/lang/String", "<init>", "([CIILjava/lang/Void;)V"⟩ : MethodName)) rfl hown (mvT hZ (wq hw 7 rfl)) (mvT hZ (wq hw 8 rfl)) (mvT hZ (wq hw 10 rfl)) (by decide) (backOfSH (W := 0) (rm_new4e l Z a0 hw [] ta tb h0 n0 Z0 hthis E1 F1 F2) hZ (wq hw 10 rfl) (wq hw 3 rfl) (by decide) (by decide) hEL R0.1) (g := (mkF m 6 #[vR ta, vR tb] [.null, (.int (0 : Int32)), (.int (0 : Int32)), (.ref tb), (.ref ta)])) rfl (by rw [hml]; rfl) (Steps.refl _) (a := ta) (argsL := [(.ref tb), (.int (0 : Int32)), (.int (0 : Int32)), .null]) (rest := []) (lenOf pd_6 rfl) rfl (by show 2 * 0 + _ ≤ _; exact Nat.le_of_eq rfl) (hb hby dn1_6) (fun _ _ => ⟨rfl, e0, (by decide : 0 + 4 ≤ _), (by decide : 0 + 8 ≤ _)⟩)
  dsimp only [Pt.U, Pt.locs, Pt.cells, Pt.slots] at X26_ hS26_ hg26_ l26 y26 z26 st26 hQ26 CR26
  subst l26 y26 z26
  obtain ⟨X26, hS26, hZ26, hown26⟩ := rebS hS0 (by rw [e0]; exact (Nat.zero_le _)) X26_ hS26_ hg26_ hZ hown
  obtain ⟨rfl, Nq26, K26, Q26⟩ := hQ26
  have N26 := Fr.app N0 Nq26
  have R26 := R0.trans CR26
  refine Rch.go st26 ?_
  show Rch p e below T26 (mkF m 9 #[vR ta, vR tb] []) _
  exact Rch.finW (Q := Q_new1e Z ta tb kc h0 n0) X26 hZ26 hEL hS26 (Nat.le_refl _) rfl R26 (v := none) (fun _ => rfl) (BodyLoose.notSynchronized Bd) (fun fs hr => X26.returnOut hx Bd.returns (hb hby dn1_9) hr) ⟨rfl, N26, K26, Q26⟩ (by decide) (by decide)
theorem dpu_0 : decode jdk_52_method_4_code 0 = .ok (.getstatic 44, 3) := by decide +kernel
theorem dpu_3 : decode jdk_52_method_4_code 3 = .ok (.ifCond .ne 25, 3) := by decide +kernel
theorem dpu_6 : decode jdk_52_method_4_code 6 = .ok (.iload_n 1, 1) := by decide +kernel
theorem dpu_7 : decode jdk_52_method_4_code 7 = .ok (.ifCond .lt 11, 3) := by decide +kernel
theorem dpu_10 : decode jdk_52_method_4_code 10 = .ok (.iload_n 1, 1) := by decide +kernel
theorem dpu_11 : decode jdk_52_method_4_code 11 = .ok (.aload_n 0, 1) := by decide +kernel
theorem dpu_12 : decode jdk_52_method_4_code 12 = .ok (.invokestatic 48, 3) := by decide +kernel
theorem dpu_15 : decode jdk_52_method_4_code 15 = .ok (.if_icmp .lt 13, 3) := by decide +kernel
theorem dpu_18 : decode jdk_52_method_4_code 18 = .ok (.new 52, 3) := by decide +kernel
theorem dpu_21 : decode jdk_52_method_4_code 21 = .ok (.dup, 1) := by decide +kernel
theorem dpu_22 : decode jdk_52_method_4_code 22 = .ok (.ldc 54, 2) := by decide +kernel
theorem dpu_24 : decode jdk_52_method_4_code 24 = .ok (.invokespecial 56, 3) := by decide +kernel
theorem dpu_27 : decode jdk_52_method_4_code 27 = .ok (.athrow, 1) := by decide +kernel
theorem dpu_28 : decode jdk_52_method_4_code 28 = .ok (.iload_n 1, 1) := by decide +kernel
theorem dpu_29 : decode jdk_52_method_4_code 29 = .ok (.iconst 1, 1) := by decide +kernel
theorem dpu_30 : decode jdk_52_method_4_code 30 = .ok (.ishl, 1) := by decide +kernel
theorem dpu_31 : decode jdk_52_method_4_code 31 = .ok (.istore_n 1, 1) := by decide +kernel
theorem dpu_32 : decode jdk_52_method_4_code 32 = .ok (.aload_n 0, 1) := by decide +kernel
theorem dpu_33 : decode jdk_52_method_4_code 33 = .ok (.iload_n 1, 1) := by decide +kernel
theorem dpu_34 : decode jdk_52_method_4_code 34 = .ok (.iinc 1 1, 3) := by decide +kernel
theorem dpu_37 : decode jdk_52_method_4_code 37 = .ok (.iload_n 2, 1) := by decide +kernel
theorem dpu_38 : decode jdk_52_method_4_code 38 = .ok (.getstatic 59, 3) := by decide +kernel
theorem dpu_41 : decode jdk_52_method_4_code 41 = .ok (.ishr, 1) := by decide +kernel
theorem dpu_42 : decode jdk_52_method_4_code 42 = .ok (.i2b, 1) := by decide +kernel
theorem dpu_43 : decode jdk_52_method_4_code 43 = .ok (.bastore, 1) := by decide +kernel
theorem dpu_44 : decode jdk_52_method_4_code 44 = .ok (.aload_n 0, 1) := by decide +kernel
theorem dpu_45 : decode jdk_52_method_4_code 45 = .ok (.iload_n 1, 1) := by decide +kernel
theorem dpu_46 : decode jdk_52_method_4_code 46 = .ok (.iload_n 2, 1) := by decide +kernel
theorem dpu_47 : decode jdk_52_method_4_code 47 = .ok (.getstatic 63, 3) := by decide +kernel
theorem dpu_50 : decode jdk_52_method_4_code 50 = .ok (.ishr, 1) := by decide +kernel
theorem dpu_51 : decode jdk_52_method_4_code 51 = .ok (.i2b, 1) := by decide +kernel
theorem dpu_52 : decode jdk_52_method_4_code 52 = .ok (.bastore, 1) := by decide +kernel
theorem dpu_53 : decode jdk_52_method_4_code 53 = .ok (.return_, 1) := by decide +kernel
theorem pn_put : plainFor (⟨"java/lang/StringUTF16", "putChar", "([BII)V"⟩ : MethodName) = true := by first | exact plainFor_of_name (by first | (simp [plainName, overriddenIn]; done) | decide +kernel) | exact Jvm.Free.JP.mathPlain rfl (by decide +kernel)
theorem ef_put (m : MethodId) (x0 : Addr) (x1 : Int32) (x2 : Int32) : entryFrame m #[(.ref x0), (.int x1), (.int x2)] 3 = mkF m 0 #[vR x0, vI x1, vI x2] [] := by first | (simp [entryFrame, mkF, argsToLocals, Value.category]; done) | rfl
def Q_put (Z : State) (tb : Addr) (kb : ClassId) (vs : List Value) (i : Nat) (ch : Int32) (fm : Value) (h0 : Heap) (n0 : Nat) (v : Option Value) (h : Heap) (L : List Loc) : Prop := v = none ∧ Fr n0 L ∧ Keep h0 h [tb] ∧ Arv Z h tb kb .byte (Int32.ofNat vs.length) ((vs.set (2 * i) (.int (StrChars.lo8 ch))).set (2 * i + 1) (.int (StrChars.hi8 ch))) (.int 0)
set_option maxRecDepth 65536 in
set_option maxHeartbeats 40000000 in
theorem rm_put (l : Launch) (Z : State) (a0 : Array Value) (hw : ∀ d ∈ tables_1, d.before a0 Z = true) (ws : List Jvm.Cond) (tb : Addr) (kb : ClassId) (vs : List Value) (i : Nat) (ch : Int32) (fm : Value) (h0 : Heap) (n0 : Nat) (Z0 : n0 ≤ h0.size) (B : Bg Z h0 fm) (hthis : n0 ≤ tb) (M : Arv Z h0 tb kb .byte (Int32.ofNat vs.length) vs (.int 0)) (hi : 2 * i + 1 < vs.length) (hl : vs.length ≤ 10000) :
    MetFree l (⟨"java/lang/StringUTF16", "putChar", "([BII)V"⟩ : MethodName) (head1 (Jvm.Cond.code (⟨"java/lang/StringUTF16", "putChar", "([BII)V"⟩ : MethodName) jdk_52_method_4_code 3 none :: ws) ({ frames := 0, cells := 0, slots := 0, locals := 0 } : Room)) (fun a U => a = #[(.ref tb), (.int (Int32.ofNat i)), (.int ch)] ∧ Z.Warmed39 U.vm ∧ U.heap = h0) (fun _ _ _ _ _ => True) (fun _ U o U' => ∃ v L, o = .returned v ∧ Q_put Z tb kb vs i ch fm h0 n0 v U'.heap L ∧ FrameEnd U o U' L ({ frames := 0, cells := 0, slots := 0, locals := 0 } : Room).cells ({ frames := 0, cells := 0, slots := 0, locals := 0 } : Room).slots) := by
  refine MetFree.of_bodySF pn_put hisR ?_
  intro p e s m args below meth c s₁ Bd hml0 hP hK
  obtain ⟨rfl, hZ, hh⟩ := hP
  have hx := Bd.exec
  have hby := Bd.bytes
  have hml : c.maxLocals = 3 := hml0
  have hown : s.vm.findClass "java/lang/StringUTF16" = some m.cls := findClass_of_methodNamed Bd.named
  have hnm := (name_of_methodNamed Bd.named Bd.method).1
  have X0 : Stand p l e ({ frames := 0, cells := 0, slots := 0, locals := 0 } : Room) s m #[(.ref tb), (.int (Int32.ofNat i)), (.int ch)] below meth c s₁ [] 0 0 := Stand.of_body Bd
  have e0 : s₁.heap = h0 := by rw [← hh, Bd.state]; rfl
  have N0 := Fr.nil n0
  show Rch p e below s₁ (entryFrame m #[(.ref tb), (.int (Int32.ofNat i)), (.int ch)] 3) (fun U o => ∃ v L, o = .returned v ∧ Q_put Z tb kb vs i ch fm h0 n0 v U.heap L ∧ FrameEnd s o U L ({ frames := 0, cells := 0, slots := 0, locals := 0 } : Room).cells ({ frames := 0, cells := 0, slots := 0, locals := 0 } : Room).slots)
  refine Rch.cast (ef_put m tb (Int32.ofNat i) ch) ?_
  show Rch p e below s₁ (mkF m 0 #[vR tb, vI (Int32.ofNat i), vI ch] []) _
  obtain ⟨T27, X27, e27, st27⟩ := getS2 X0 hx hZ hown (host := "") (Or.inl (wq hw 119 rfl)) Via.refl e0 B.2.1 (g := (mkF m 0 #[vR tb, vI (Int32.ofNat i), vI ch] [])) rfl (hb hby dpu_0)
  refine Rch.st st27 ?_
  show Rch p e below T27 (mkF m 3 #[vR tb, vI (Int32.ofNat i), vI ch] [(.int (1 : Int32))]) _
  refine Rch.st (fun _ k => XS.ifYes X27.here hx rfl (pc0 := 3) (pc' := 28) rfl (hb hby dpu_3) rfl (by decide : ifCond.holds .ne (1 : Int32) = true) (by decide) (by decide) k) ?_
  refine Rch.st (fun _ k => XS.iloadN X27.here hx rfl (hb hby dpu_28) rfl k) ?_
  show Rch p e below T27 (mkF m 29 #[vR tb, vI (Int32.ofNat i), vI ch] [(.int (Int32.ofNat i))]) _
  refine Rch.st (fun _ k => XS.iconst X27.here hx rfl (hb hby dpu_29)  k) ?_
  show Rch p e below T27 (mkF m 30 #[vR tb, vI (Int32.ofNat i), vI ch] [(.int (1 : Int32)), (.int (Int32.ofNat i))]) _
  refine Rch.st (fun _ k => XT.ishl X27.here hx rfl (hb hby dpu_30) rfl k) ?_
  show Rch p e below T27 (mkF m 31 #[vR tb, vI (Int32.ofNat i), vI ch] [(.int ((Int32.ofNat i) <<< ((1 : Int32) &&& 31)))]) _
  rw [shl1n (show 2 * i < 2 ^ 31 by omega)]
  show Rch p e below T27 (mkF m 31 #[vR tb, vI (Int32.ofNat i), vI ch] [(.int (Int32.ofNat (2 * i)))]) _
  refine Rch.st (fun _ k => XS.istoreN X27.here hx rfl (hb hby dpu_31) rfl (l' := #[vR tb, vI (Int32.ofNat (2 * i)), vI ch]) rfl k) ?_
  refine Rch.st (fun _ k => XS.aloadN X27.here hx rfl (hb hby dpu_32) rfl rfl k) ?_
  show Rch p e below T27 (mkF m 33 #[vR tb, vI (Int32.ofNat (2 * i)), vI ch] [(.ref tb)]) _
  refine Rch.st (fun _ k => XS.iloadN X27.here hx rfl (hb hby dpu_33) rfl k) ?_
  refine Rch.st (fun _ k => XS.iinc X27.here hx rfl (hb hby dpu_34) rfl (l' := #[vR tb, vI ((Int32.ofNat (2 * i)) + (1 : Int32)), vI ch]) rfl k) ?_
  show Rch p e below T27 (mkF m 37 #[vR tb, vI ((Int32.ofNat (2 * i)) + (1 : Int32)), vI ch] [(.int (Int32.ofNat (2 * i))), (.ref tb)]) _
  rw [add1n]
  show Rch p e below T27 (mkF m 37 #[vR tb, vI (Int32.ofNat (2 * i + 1)), vI ch] [(.int (Int32.ofNat (2 * i))), (.ref tb)]) _
  refine Rch.st (fun _ k => XS.iloadN X27.here hx rfl (hb hby dpu_37) rfl k) ?_
  show Rch p e below T27 (mkF m 38 #[vR tb, vI (Int32.ofNat (2 * i + 1)), vI ch] [(.int ch), (.int (Int32.ofNat (2 * i))), (.ref tb)]) _
  obtain ⟨T28, X28, e28, st28⟩ := getS2 X27 hx hZ hown (host := "") (Or.inl (wq hw 120 rfl)) Via.refl e27 B.2.2.1 (g := (mkF m 38 #[vR tb, vI (Int32.ofNat (2 * i + 1)), vI ch] [(.int ch), (.int (Int32.ofNat (2 * i))), (.ref tb)])) rfl (hb hby dpu_38)
  refine Rch.st st28 ?_
  show Rch p e below T28 (mkF m 41 #[vR tb, vI (Int32.ofNat (2 * i + 1)), vI ch] [(.int (0 : Int32)), (.int ch), (.int (Int32.ofNat (2 * i))), (.ref tb)]) _
  refine Rch.st (fun _ k => XT.ishr X28.here hx rfl (hb hby dpu_41) rfl k) ?_
  show Rch p e below T28 (mkF m 42 #[vR tb, vI (Int32.ofNat (2 * i + 1)), vI ch] [(.int (ch >>> ((0 : Int32) &&& 31))), (.int (Int32.ofNat (2 * i))), (.ref tb)]) _
  rw [StrChars.shr0]
  show Rch p e below T28 (mkF m 42 #[vR tb, vI (Int32.ofNat (2 * i + 1)), vI ch] [(.int ch), (.int (Int32.ofNat (2 * i))), (.ref tb)]) _
  refine Rch.st (fun _ k => XT.i2b X28.here hx rfl (hb hby dpu_42) rfl k) ?_
  show Rch p e below T28 (mkF m 43 #[vR tb, vI (Int32.ofNat (2 * i + 1)), vI ch] [(.int (ch.toInt8.toInt32)), (.int (Int32.ofNat (2 * i))), (.ref tb)]) _
  obtain ⟨T29, h29, L29, sl29, X29, e29, W29, V29, N29, st29⟩ := stBv X28 hx hZ e28 M N0 hthis (j := (Int32.ofNat (2 * i))) ⟨ofN_neg (by omega), ofN_lt (by omega) (by omega)⟩ (2 * i) (ofN_clamp (by omega)) (by omega) (g := (mkF m 43 #[vR tb, vI (Int32.ofNat (2 * i + 1)), vI ch] [(.int (ch.toInt8.toInt32)), (.int (Int32.ofNat (2 * i))), (.ref tb)])) rfl rfl (hb hby dpu_43)
  rw [nar_byte] at V29 W29
  have B29 := B.wr W29
  refine Rch.st st29 ?_
  show Rch p e below T29 (mkF m 44 #[vR tb, vI (Int32.ofNat (2 * i + 1)), vI ch] []) _
  refine Rch.st (fun _ k => XS.aloadN X29.here hx rfl (hb hby dpu_44) rfl rfl k) ?_
  refine Rch.st (fun _ k => XS.iloadN X29.here hx rfl (hb hby dpu_45) rfl k) ?_
  show Rch p e below T29 (mkF m 46 #[vR tb, vI (Int32.ofNat (2 * i + 1)), vI ch] [(.int (Int32.ofNat (2 * i + 1))), (.ref tb)]) _
  refine Rch.st (fun _ k => XS.iloadN X29.here hx rfl (hb hby dpu_46) rfl k) ?_
  show Rch p e below T29 (mkF m 47 #[vR tb, vI (Int32.ofNat (2 * i + 1)), vI ch] [(.int ch), (.int (Int32.ofNat (2 * i + 1))), (.ref tb)]) _
  obtain ⟨T30, X30, e30, st30⟩ := getS2 X29 hx hZ hown (host := "") (Or.inl (wq hw 121 rfl)) Via.refl e29 B29.2.2.2.1 (g := (mkF m 47 #[vR tb, vI (Int32.ofNat (2 * i + 1)), vI ch] [(.int ch), (.int (Int32.ofNat (2 * i + 1))), (.ref tb)])) rfl (hb hby dpu_47)
  refine Rch.st st30 ?_
  show Rch p e below T30 (mkF m 50 #[vR tb, vI (Int32.ofNat (2 * i + 1)), vI ch] [(.int (8 : Int32)), (.int ch), (.int (Int32.ofNat (2 * i + 1))), (.ref tb)]) _
  refine Rch.st (fun _ k => XT.ishr X30.here hx rfl (hb hby dpu_50) rfl k) ?_
  show Rch p e below T30 (mkF m 51 #[vR tb, vI (Int32.ofNat (2 * i + 1)), vI ch] [(.int (ch >>> ((8 : Int32) &&& 31))), (.int (Int32.ofNat (2 * i + 1))), (.ref tb)]) _
  refine Rch.st (fun _ k => XT.i2b X30.here hx rfl (hb hby dpu_51) rfl k) ?_
  show Rch p e below T30 (mkF m 52 #[vR tb, vI (Int32.ofNat (2 * i + 1)), vI ch] [(.int ((ch >>> ((8 : Int32) &&& 31)).toInt8.toInt32)), (.int (Int32.ofNat (2 * i + 1))), (.ref tb)]) _
  obtain ⟨T31, h31, L31, sl31, X31, e31, W31, V31, N31, st31⟩ := stBv X30 hx hZ e30 V29 N29 hthis (j := (Int32.ofNat (2 * i + 1))) ⟨ofN_neg (by omega), ofN_lt (by omega) (by omega)⟩ (2 * i + 1) (ofN_clamp (by omega)) (by simpa using hi) (g := (mkF m 52 #[vR tb, vI (Int32.ofNat (2 * i + 1)), vI ch] [(.int ((ch >>> ((8 : Int32) &&& 31)).toInt8.toInt32)), (.int (Int32.ofNat (2 * i + 1))), (.ref tb)])) rfl rfl (hb hby dpu_52)
  rw [nar_byte] at V31 W31
  refine Rch.st st31 ?_
  show Rch p e below T31 (mkF m 53 #[vR tb, vI (Int32.ofNat (2 * i + 1)), vI ch] []) _
  have K9 : Keep h0 h31 [tb] := ((Keep.refl _ _).wr W29 (Or.inl (List.mem_singleton.mpr rfl))).wr W31 (Or.inl (List.mem_singleton.mpr rfl))
  exact Rch.fin (Q := Q_put Z tb kb vs i ch fm h0 n0) X31 (v := none) (fun _ => rfl) (BodyLoose.notSynchronized Bd) (fun fs hr => X31.returnOut hx Bd.returns (hb hby dpu_53) hr) (by rw [e31]; exact ⟨rfl, N31, K9, V31⟩) (by decide) (by decide)
theorem dnl_0 : decode jdk_52_method_3_code 0 = .ok (.iload_n 0, 1) := by decide +kernel
theorem dnl_1 : decode jdk_52_method_3_code 1 = .ok (.ifCond .ge 11, 3) := by decide +kernel
theorem dnl_4 : decode jdk_52_method_3_code 4 = .ok (.new 17, 3) := by decide +kernel
theorem dnl_7 : decode jdk_52_method_3_code 7 = .ok (.dup, 1) := by decide +kernel
theorem dnl_8 : decode jdk_52_method_3_code 8 = .ok (.invokespecial 19, 3) := by decide +kernel
theorem dnl_11 : decode jdk_52_method_3_code 11 = .ok (.athrow, 1) := by decide +kernel
theorem dnl_12 : decode jdk_52_method_3_code 12 = .ok (.iload_n 0, 1) := by decide +kernel
theorem dnl_13 : decode jdk_52_method_3_code 13 = .ok (.ldc 20, 2) := by decide +kernel
theorem dnl_15 : decode jdk_52_method_3_code 15 = .ok (.if_icmp .lt 40, 3) := by decide +kernel
theorem dnl_18 : decode jdk_52_method_3_code 18 = .ok (.new 21, 3) := by decide +kernel
theorem dnl_21 : decode jdk_52_method_3_code 21 = .ok (.dup, 1) := by decide +kernel
theorem dnl_22 : decode jdk_52_method_3_code 22 = .ok (.new 23, 3) := by decide +kernel
theorem dnl_25 : decode jdk_52_method_3_code 25 = .ok (.dup, 1) := by decide +kernel
theorem dnl_26 : decode jdk_52_method_3_code 26 = .ok (.invokespecial 25, 3) := by decide +kernel
theorem dnl_29 : decode jdk_52_method_3_code 29 = .ok (.ldc 26, 2) := by decide +kernel
theorem dnl_31 : decode jdk_52_method_3_code 31 = .ok (.invokevirtual 28, 3) := by decide +kernel
theorem dnl_34 : decode jdk_52_method_3_code 34 = .ok (.iload_n 0, 1) := by decide +kernel
theorem dnl_35 : decode jdk_52_method_3_code 35 = .ok (.invokevirtual 32, 3) := by decide +kernel
theorem dnl_38 : decode jdk_52_method_3_code 38 = .ok (.ldc 35, 2) := by decide +kernel
theorem dnl_40 : decode jdk_52_method_3_code 40 = .ok (.invokevirtual 28, 3) := by decide +kernel
theorem dnl_43 : decode jdk_52_method_3_code 43 = .ok (.ldc 20, 2) := by decide +kernel
theorem dnl_45 : decode jdk_52_method_3_code 45 = .ok (.invokevirtual 32, 3) := by decide +kernel
theorem dnl_48 : decode jdk_52_method_3_code 48 = .ok (.invokevirtual 37, 3) := by decide +kernel
theorem dnl_51 : decode jdk_52_method_3_code 51 = .ok (.invokespecial 41, 3) := by decide +kernel
theorem dnl_54 : decode jdk_52_method_3_code 54 = .ok (.athrow, 1) := by decide +kernel
theorem dnl_55 : decode jdk_52_method_3_code 55 = .ok (.iload_n 0, 1) := by decide +kernel
theorem dnl_56 : decode jdk_52_method_3_code 56 = .ok (.iconst 1, 1) := by decide +kernel
theorem dnl_57 : decode jdk_52_method_3_code 57 = .ok (.ishl, 1) := by decide +kernel
theorem dnl_58 : decode jdk_52_method_3_code 58 = .ok (.ireturn, 1) := by decide +kernel
theorem pn_nbl : plainFor (⟨"java/lang/StringUTF16", "newBytesLength", "(I)I"⟩ : MethodName) = true := by first | exact plainFor_of_name (by first | (simp [plainName, overriddenIn]; done) | decide +kernel) | exact Jvm.Free.JP.mathPlain rfl (by decide +kernel)
theorem ef_nbl (m : MethodId) (x0 : Int32) : entryFrame m #[(.int x0)] 1 = mkF m 0 #[vI x0] [] := by first | (simp [entryFrame, mkF, argsToLocals, Value.category]; done) | rfl
def Q_nbl (Z : State) (z : Int32) (h0 : Heap) (n0 : Nat) (v : Option Value) (h : Heap) (L : List Loc) : Prop := v = some (.int (z <<< ((1 : Int32) &&& 31))) ∧ Fr n0 L ∧ h = h0
set_option maxRecDepth 65536 in
set_option maxHeartbeats 40000000 in
theorem rm_nbl (l : Launch) (Z : State) (a0 : Array Value) (hw : ∀ d ∈ tables_1, d.before a0 Z = true) (ws : List Jvm.Cond) (z : Int32) (h0 : Heap) (n0 : Nat) (Z0 : n0 ≤ h0.size) (h1 : ¬ z < 0) (h2 : z < (1073741823 : Int32)) :
    MetFree l (⟨"java/lang/StringUTF16", "newBytesLength", "(I)I"⟩ : MethodName) (head1 (Jvm.Cond.code (⟨"java/lang/StringUTF16", "newBytesLength", "(I)I"⟩ : MethodName) jdk_52_method_3_code 1 (some .int) :: ws) ({ frames := 0, cells := 0, slots := 0, locals := 0 } : Room)) (fun a U => a = #[(.int z)] ∧ Z.Warmed39 U.vm ∧ U.heap = h0) (fun _ _ _ _ _ => True) (fun _ U o U' => ∃ v L, o = .returned v ∧ Q_nbl Z z h0 n0 v U'.heap L ∧ FrameEnd U o U' L ({ frames := 0, cells := 0, slots := 0, locals := 0 } : Room).cells ({ frames := 0, cells := 0, slots := 0, locals := 0 } : Room).slots) := by
  refine MetFree.of_bodySF pn_nbl hisR ?_
  intro p e s m args below meth c s₁ Bd hml0 hP hK
  obtain ⟨rfl, hZ, hh⟩ := hP
  have hx := Bd.exec
  have hby := Bd.bytes
  have hml : c.maxLocals = 1 := hml0
  have hown : s.vm.findClass "java/lang/StringUTF16" = some m.cls := findClass_of_methodNamed Bd.named
  have hnm := (name_of_methodNamed Bd.named Bd.method).1
  have X0 : Stand p l e ({ frames := 0, cells := 0, slots := 0, locals := 0 } : Room) s m #[(.int z)] below meth c s₁ [] 0 0 := Stand.of_body Bd
  have e0 : s₁.heap = h0 := by rw [← hh, Bd.state]; rfl
  have N0 := Fr.nil n0
  show Rch p e below s₁ (entryFrame m #[(.int z)] 1) (fun U o => ∃ v L, o = .returned v ∧ Q_nbl Z z h0 n0 v U.heap L ∧ FrameEnd s o U L ({ frames := 0, cells := 0, slots := 0, locals := 0 } : Room).cells ({ frames := 0, cells := 0, slots := 0, locals := 0 } : Room).slots)
  refine Rch.cast (ef_nbl m z) ?_
  show Rch p e below s₁ (mkF m 0 #[vI z] []) _
  refine Rch.st (fun _ k => XS.iloadN X0.here hx rfl (hb hby dnl_0) rfl k) ?_
  refine Rch.st (fun _ k => XS.ifYes X0.here hx rfl (pc0 := 1) (pc' := 12) rfl (hb hby dnl_1) rfl ((if0 _ _).trans (flt h1).2.1) (by decide) (by decide) k) ?_
  show Rch p e below s₁ (mkF m 12 #[vI z] []) _
  refine Rch.st (fun _ k => XS.iloadN X0.here hx rfl (hb hby dnl_12) rfl k) ?_
  show Rch p e below s₁ (mkF m 13 #[vI z] [(.int z)]) _
  refine Rch.st (X0.ldcInt hx hown (mvT hZ (wq hw 115 rfl)) (g := (mkF m 13 #[vI z] [(.int z)])) rfl (hb hby dnl_13)) ?_
  show Rch p e below s₁ (mkF m 15 #[vI z] [(.int (1073741823 : Int32)), (.int z)]) _
  refine Rch.st (fun _ k => XS.icmpYes X0.here hx rfl (pc0 := 15) (pc' := 55) rfl (hb hby dnl_15) rfl (tlt h2).1 (by decide) (by decide) k) ?_
  refine Rch.st (fun _ k => XS.iloadN X0.here hx rfl (hb hby dnl_55) rfl k) ?_
  show Rch p e below s₁ (mkF m 56 #[vI z] [(.int z)]) _
  refine Rch.st (fun _ k => XS.iconst X0.here hx rfl (hb hby dnl_56)  k) ?_
  show Rch p e below s₁ (mkF m 57 #[vI z] [(.int (1 : Int32)), (.int z)]) _
  refine Rch.st (fun _ k => XT.ishl X0.here hx rfl (hb hby dnl_57) rfl k) ?_
  show Rch p e below s₁ (mkF m 58 #[vI z] [(.int (z <<< ((1 : Int32) &&& 31)))]) _
  exact Rch.fin (Q := Q_nbl Z z h0 n0) X0 (v := some (.int (z <<< ((1 : Int32) &&& 31)))) (fun h => by rw [Bd.returns] at h; cases h) (BodyLoose.notSynchronized Bd) (fun fs hr => retI X0 hx Bd.returns (hb hby dnl_58) hr) (by rw [e0]; exact ⟨rfl, N0, rfl⟩) (by decide) (by decide)
theorem dnf_0 : decode jdk_52_method_2_code 0 = .ok (.iload_n 0, 1) := by decide +kernel
theorem dnf_1 : decode jdk_52_method_2_code 1 = .ok (.invokestatic 11, 3) := by decide +kernel
theorem dnf_4 : decode jdk_52_method_2_code 4 = .ok (.newarray .byte, 2) := by decide +kernel
theorem dnf_6 : decode jdk_52_method_2_code 6 = .ok (.areturn, 1) := by decide +kernel
theorem dto_0 : decode jdk_52_method_14_code 0 = .ok (.iload_n 2, 1) := by decide +kernel
theorem dto_1 : decode jdk_52_method_14_code 1 = .ok (.invokestatic 107, 3) := by decide +kernel
theorem dto_4 : decode jdk_52_method_14_code 4 = .ok (.astore_n 3, 1) := by decide +kernel
theorem dto_5 : decode jdk_52_method_14_code 5 = .ok (.iconst 0, 1) := by decide +kernel
theorem dto_6 : decode jdk_52_method_14_code 6 = .ok (.istore 4, 2) := by decide +kernel
theorem dto_8 : decode jdk_52_method_14_code 8 = .ok (.iload 4, 2) := by decide +kernel
theorem dto_10 : decode jdk_52_method_14_code 10 = .ok (.iload_n 2, 1) := by decide +kernel
theorem dto_11 : decode jdk_52_method_14_code 11 = .ok (.if_icmp .ge 21, 3) := by decide +kernel
theorem dto_14 : decode jdk_52_method_14_code 14 = .ok (.aload_n 3, 1) := by decide +kernel
theorem dto_15 : decode jdk_52_method_14_code 15 = .ok (.iload 4, 2) := by decide +kernel
theorem dto_17 : decode jdk_52_method_14_code 17 = .ok (.aload_n 0, 1) := by decide +kernel
theorem dto_18 : decode jdk_52_method_14_code 18 = .ok (.iload_n 1, 1) := by decide +kernel
theorem dto_19 : decode jdk_52_method_14_code 19 = .ok (.caload, 1) := by decide +kernel
theorem dto_20 : decode jdk_52_method_14_code 20 = .ok (.invokestatic 111, 3) := by decide +kernel
theorem dto_23 : decode jdk_52_method_14_code 23 = .ok (.iinc 1 1, 3) := by decide +kernel
theorem dto_26 : decode jdk_52_method_14_code 26 = .ok (.iinc 4 1, 3) := by decide +kernel
theorem dto_29 : decode jdk_52_method_14_code 29 = .ok (.goto (-21), 3) := by decide +kernel
theorem dto_32 : decode jdk_52_method_14_code 32 = .ok (.aload_n 3, 1) := by decide +kernel
theorem dto_33 : decode jdk_52_method_14_code 33 = .ok (.areturn, 1) := by decide +kernel
theorem dc5_0 : decode jdk_52_method_21_code 0 = .ok (.iconst 0, 1) := by decide +kernel
theorem dc5_1 : decode jdk_52_method_21_code 1 = .ok (.istore 5, 2) := by decide +kernel
theorem dc5_3 : decode jdk_52_method_21_code 3 = .ok (.iload 5, 2) := by decide +kernel
theorem dc5_5 : decode jdk_52_method_21_code 5 = .ok (.iload 4, 2) := by decide +kernel
theorem dc5_7 : decode jdk_52_method_21_code 7 = .ok (.if_icmp .ge 37, 3) := by decide +kernel
theorem dc5_10 : decode jdk_52_method_21_code 10 = .ok (.aload_n 0, 1) := by decide +kernel
theorem dc5_11 : decode jdk_52_method_21_code 11 = .ok (.iload_n 1, 1) := by decide +kernel
theorem dc5_12 : decode jdk_52_method_21_code 12 = .ok (.caload, 1) := by decide +kernel
theorem dc5_13 : decode jdk_52_method_21_code 13 = .ok (.istore 6, 2) := by decide +kernel
theorem dc5_15 : decode jdk_52_method_21_code 15 = .ok (.iload 6, 2) := by decide +kernel
theorem dc5_17 : decode jdk_52_method_21_code 17 = .ok (.sipush 255, 3) := by decide +kernel
theorem dc5_20 : decode jdk_52_method_21_code 20 = .ok (.if_icmp .le 6, 3) := by decide +kernel
theorem dc5_23 : decode jdk_52_method_21_code 23 = .ok (.iload 5, 2) := by decide +kernel
theorem dc5_25 : decode jdk_52_method_21_code 25 = .ok (.ireturn, 1) := by decide +kernel
theorem dc5_26 : decode jdk_52_method_21_code 26 = .ok (.aload_n 2, 1) := by decide +kernel
theorem dc5_27 : decode jdk_52_method_21_code 27 = .ok (.iload_n 3, 1) := by decide +kernel
theorem dc5_28 : decode jdk_52_method_21_code 28 = .ok (.iload 6, 2) := by decide +kernel
theorem dc5_30 : decode jdk_52_method_21_code 30 = .ok (.i2b, 1) := by decide +kernel
theorem dc5_31 : decode jdk_52_method_21_code 31 = .ok (.bastore, 1) := by decide +kernel
theorem dc5_32 : decode jdk_52_method_21_code 32 = .ok (.iinc 1 1, 3) := by decide +kernel
theorem dc5_35 : decode jdk_52_method_21_code 35 = .ok (.iinc 3 1, 3) := by decide +kernel
theorem dc5_38 : decode jdk_52_method_21_code 38 = .ok (.iinc 5 1, 3) := by decide +kernel
theorem dc5_41 : decode jdk_52_method_21_code 41 = .ok (.goto (-38), 3) := by decide +kernel
theorem dc5_44 : decode jdk_52_method_21_code 44 = .ok (.iload 4, 2) := by decide +kernel
theorem dc5_46 : decode jdk_52_method_21_code 46 = .ok (.ireturn, 1) := by decide +kernel
theorem dc3_0 : decode jdk_52_method_16_code 0 = .ok (.iload_n 2, 1) := by decide +kernel
theorem dc3_1 : decode jdk_52_method_16_code 1 = .ok (.newarray .byte, 2) := by decide +kernel
theorem dc3_3 : decode jdk_52_method_16_code 3 = .ok (.astore_n 3, 1) := by decide +kernel
theorem dc3_4 : decode jdk_52_method_16_code 4 = .ok (.aload_n 0, 1) := by decide +kernel
theorem dc3_5 : decode jdk_52_method_16_code 5 = .ok (.iload_n 1, 1) := by decide +kernel
theorem dc3_6 : decode jdk_52_method_16_code 6 = .ok (.aload_n 3, 1) := by decide +kernel
theorem dc3_7 : decode jdk_52_method_16_code 7 = .ok (.iconst 0, 1) := by decide +kernel
theorem dc3_8 : decode jdk_52_method_16_code 8 = .ok (.iload_n 2, 1) := by decide +kernel
theorem dc3_9 : decode jdk_52_method_16_code 9 = .ok (.invokestatic 115, 3) := by decide +kernel
theorem dc3_12 : decode jdk_52_method_16_code 12 = .ok (.istore 4, 2) := by decide +kernel
theorem dc3_14 : decode jdk_52_method_16_code 14 = .ok (.iload 4, 2) := by decide +kernel
theorem dc3_16 : decode jdk_52_method_16_code 16 = .ok (.iload_n 2, 1) := by decide +kernel
theorem dc3_17 : decode jdk_52_method_16_code 17 = .ok (.if_icmp .eq 40, 3) := by decide +kernel
theorem dc3_20 : decode jdk_52_method_16_code 20 = .ok (.aload_n 0, 1) := by decide +kernel
theorem dc3_21 : decode jdk_52_method_16_code 21 = .ok (.iload_n 1, 1) := by decide +kernel
theorem dc3_22 : decode jdk_52_method_16_code 22 = .ok (.iload_n 2, 1) := by decide +kernel
theorem dc3_23 : decode jdk_52_method_16_code 23 = .ok (.invokestatic 119, 3) := by decide +kernel
theorem dc3_26 : decode jdk_52_method_16_code 26 = .ok (.astore 5, 2) := by decide +kernel
theorem dc3_28 : decode jdk_52_method_16_code 28 = .ok (.aload 5, 2) := by decide +kernel
theorem dc3_30 : decode jdk_52_method_16_code 30 = .ok (.iload 4, 2) := by decide +kernel
theorem dc3_32 : decode jdk_52_method_16_code 32 = .ok (.invokestatic 71, 3) := by decide +kernel
theorem dc3_35 : decode jdk_52_method_16_code 35 = .ok (.sipush 255, 3) := by decide +kernel
theorem dc3_38 : decode jdk_52_method_16_code 38 = .ok (.if_icmp .gt 16, 3) := by decide +kernel
theorem dc3_41 : decode jdk_52_method_16_code 41 = .ok (.aload 5, 2) := by decide +kernel
theorem dc3_43 : decode jdk_52_method_16_code 43 = .ok (.iconst 0, 1) := by decide +kernel
theorem dc3_44 : decode jdk_52_method_16_code 44 = .ok (.aload_n 3, 1) := by decide +kernel
theorem dc3_45 : decode jdk_52_method_16_code 45 = .ok (.iconst 0, 1) := by decide +kernel
theorem dc3_46 : decode jdk_52_method_16_code 46 = .ok (.iload_n 2, 1) := by decide +kernel
theorem dc3_47 : decode jdk_52_method_16_code 47 = .ok (.invokestatic 123, 3) := by decide +kernel
theorem dc3_50 : decode jdk_52_method_16_code 50 = .ok (.iload_n 2, 1) := by decide +kernel
theorem dc3_51 : decode jdk_52_method_16_code 51 = .ok (.if_icmp .eq 6, 3) := by decide +kernel
theorem dc3_54 : decode jdk_52_method_16_code 54 = .ok (.aload 5, 2) := by decide +kernel
theorem dc3_56 : decode jdk_52_method_16_code 56 = .ok (.areturn, 1) := by decide +kernel
theorem dc3_57 : decode jdk_52_method_16_code 57 = .ok (.aload_n 3, 1) := by decide +kernel
theorem dc3_58 : decode jdk_52_method_16_code 58 = .ok (.areturn, 1) := by decide +kernel
theorem pn_nbf1 : plainFor (⟨"java/lang/StringUTF16", "newBytesFor", "(I)[B"⟩ : MethodName) = true := by first | exact plainFor_of_name (by first | (simp [plainName, overriddenIn]; done) | decide +kernel) | exact Jvm.Free.JP.mathPlain rfl (by decide +kernel)
theorem ef_nbf1 (m : MethodId) (x0 : Int32) : entryFrame m #[(.int x0)] 1 = mkF m 0 #[vI x0] [] := by first | (simp [entryFrame, mkF, argsToLocals, Value.category]; done) | rfl
def Q_nbf1 (Z : State)  (h0 : Heap) (n0 : Nat) (v : Option Value) (h : Heap) (L : List Loc) : Prop := ∃ b k, v = some (.ref b) ∧ Fr n0 L ∧ Ext h0 h ∧ h0.size ≤ b ∧ Arv Z h b k .byte (2 : Int32) [(.int (0 : Int32)), (.int (0 : Int32))] (.int 0)
set_option maxRecDepth 65536 in
set_option maxHeartbeats 40000000 in
theorem rm_nbf1 (l : Launch) (Z : State) (a0 : Array Value) (hw : ∀ d ∈ tables_1, d.before a0 Z = true) (ws : List Jvm.Cond) (h0 : Heap) (n0 : Nat) (Z0 : n0 ≤ h0.size) :
    MetFree l (⟨"java/lang/StringUTF16", "newBytesFor", "(I)[B"⟩ : MethodName) (head1 (Jvm.Cond.code (⟨"java/lang/StringUTF16", "newBytesFor", "(I)[B"⟩ : MethodName) jdk_52_method_2_code 1 (some (.array .byte)) :: ws) ({ frames := 1, cells := 1, slots := 2, locals := 12 } : Room)) (fun a U => a = #[(.int (1 : Int32))] ∧ Z.Warmed39 U.vm ∧ U.heap = h0) (fun _ _ _ _ _ => True) (fun _ U o U' => ∃ v L, o = .returned v ∧ Q_nbf1 Z  h0 n0 v U'.heap L ∧ FrameEnd U o U' L ({ frames := 1, cells := 1, slots := 2, locals := 12 } : Room).cells ({ frames := 1, cells := 1, slots := 2, locals := 12 } : Room).slots) := by
  refine MetFree.of_bodySF pn_nbf1 hisR ?_
  intro p e s m args below meth c s₁ Bd hml0 hP hK
  obtain ⟨rfl, hZ, hh⟩ := hP
  have hx := Bd.exec
  have hby := Bd.bytes
  have hml : c.maxLocals = 1 := hml0
  have hown : s.vm.findClass "java/lang/StringUTF16" = some m.cls := findClass_of_methodNamed Bd.named
  have hnm := (name_of_methodNamed Bd.named Bd.method).1
  have X0 : Stand p l e ({ frames := 1, cells := 1, slots := 2, locals := 12 } : Room) s m #[(.int (1 : Int32))] below meth c s₁ [] 0 0 := Stand.of_body Bd
  have e0 : s₁.heap = h0 := by rw [← hh, Bd.state]; rfl
  have N0 := Fr.nil n0
  show Rch p e below s₁ (entryFrame m #[(.int (1 : Int32))] 1) (fun U o => ∃ v L, o = .returned v ∧ Q_nbf1 Z  h0 n0 v U.heap L ∧ FrameEnd s o U L ({ frames := 1, cells := 1, slots := 2, locals := 12 } : Room).cells ({ frames := 1, cells := 1, slots := 2, locals := 12 } : Room).slots)
  refine Rch.cast (ef_nbf1 m (1 : Int32)) ?_
  show Rch p e below s₁ (mkF m 0 #[vI (1 : Int32)] []) _
  refine Rch.st (fun _ k => XS.iloadN X0.here hx rfl (hb hby dnf_0) rfl k) ?_
  show Rch p e below s₁ (mkF m 1 #[vI (1 : Int32)] [(.int (1 : Int32))]) _
  obtain ⟨_, _, ⟨T32, L32, k32, n32⟩, -, X32, ⟨Lc32, hQ32, l32, y32, z32⟩, st32⟩ := Jvm.LawKit.callS X0 hx (y := (⟨"java/lang/StringUTF16", "newBytesLength", "(I)I"⟩ : MethodName)) hown (mvT hZ (wq hw 112 rfl)) (mvT hZ (wq hw 113 rfl)) (mvT hZ (wq hw 38 rfl)) (mvT hZ (wq hw 114 rfl)) (by decide) (backOf (W := 0) (rm_nbl l Z a0 hw [] (1 : Int32) h0 n0 Z0 (by decide) (by decide)) hZ (wq hw 114 rfl) (wq hw 38 rfl) (by decide) (by decide)) (g := (mkF m 1 #[vI (1 : Int32)] [(.int (1 : Int32))])) rfl (by rw [hml]; rfl) (argsL := [(.int (1 : Int32))]) (rest := []) (lenOf pd_7 rfl) rfl (by show 2 * 0 + _ ≤ _; exact Nat.le_of_eq rfl) (hb hby dnf_1) (fun _ _ => ⟨rfl, e0, (by decide : 0 + 0 ≤ _), (by decide : 0 + 0 ≤ _)⟩)
  dsimp only [Pt.U, Pt.locs, Pt.cells, Pt.slots] at X32 l32 y32 z32 st32 hQ32
  subst l32 y32 z32
  obtain ⟨rfl, Nq32, e32⟩ := hQ32
  have N32 := Fr.app N0 Nq32
  refine Rch.st st32 ?_
  show Rch p e below T32 (mkF m 4 #[vI (1 : Int32)] [(.int (2 : Int32))]) _
  obtain ⟨T33, h33, k33, X33, e33, E33, A33, st33⟩ := newP X32 hx hZ (wq hw 15 rfl) e32 (g := (mkF m 4 #[vI (1 : Int32)] [(.int (2 : Int32))])) rfl (hb hby dnf_4) rfl (by decide : ¬ ((2 : Int32) < (0 : Int32))) (cap := 2) (by decide : ((2 : Int32)).toNatClampNeg ≤ 2) (by decide) (by decide) (by decide)
  obtain ⟨a33, g33⟩ : ∃ z, z = h0.size := ⟨_, rfl⟩
  rw [← g33] at A33 st33
  have Ex34 : Ext h0 h33 := E33
  have le35 : h0.size ≤ a33 := Nat.le_of_eq g33.symm
  refine Rch.st st33 ?_
  show Rch p e below T33 (mkF m 6 #[vI (1 : Int32)] [(.ref a33)]) _
  have V33 : Arv Z h33 a33 k33 .byte (2 : Int32) [(.int (0 : Int32)), (.int (0 : Int32))] (.int (0 : Int32)) := (Arv.new A33 (by decide : ¬ ((2 : Int32) < (0 : Int32)))).pad (pad_rep [] (.int (0 : Int32)) 2)
  exact Rch.fin (Q := Q_nbf1 Z  h0 n0) X33 (v := some (.ref a33)) (fun h => by rw [Bd.returns] at h; cases h) (BodyLoose.notSynchronized Bd) (fun fs hr => retR X33 hx Bd.returns rfl rfl (hb hby dnf_6) hr) (by rw [e33]; exact ⟨a33, k33, rfl, N32, Ex34, le35, V33⟩) (by decide) (by decide)
theorem pn_toby1 : plainFor (⟨"java/lang/StringUTF16", "toBytes", "([CII)[B"⟩ : MethodName) = true := by first | exact plainFor_of_name (by first | (simp [plainName, overriddenIn]; done) | decide +kernel) | exact Jvm.Free.JP.mathPlain rfl (by decide +kernel)
theorem ef_toby1 (m : MethodId) (x0 : Addr) (x1 : Int32) (x2 : Int32) : entryFrame m #[(.ref x0), (.int x1), (.int x2)] 5 = mkF m 0 #[vR x0, vI x1, vI x2, .unset, .unset] [] := by first | (simp [entryFrame, mkF, argsToLocals, Value.category]; done) | rfl
def Q_toby1 (Z : State) (ta : Addr) (ka : ClassId) (c0 : Int32) (fm : Value) (h0 : Heap) (n0 : Nat) (v : Option Value) (h : Heap) (L : List Loc) : Prop := ∃ b k, v = some (.ref b) ∧ Fr n0 L ∧ Ext h0 h ∧ h0.size ≤ b ∧ Arv Z h b k .byte (2 : Int32) (StrChars.Road.wideBytes [c0]) (.int 0)
set_option maxRecDepth 65536 in
set_option maxHeartbeats 40000000 in
theorem rm_toby1 (l : Launch) (Z : State) (a0 : Array Value) (hw : ∀ d ∈ tables_1, d.before a0 Z = true) (ws : List Jvm.Cond) (ta : Addr) (ka : ClassId) (c0 : Int32) (fm : Value) (h0 : Heap) (n0 : Nat) (Z0 : n0 ≤ h0.size) (B : Bg Z h0 fm) (M : Arv Z h0 ta ka .char (1 : Int32) [(.int c0)] (.int 0)) :
    MetFree l (⟨"java/lang/StringUTF16", "toBytes", "([CII)[B"⟩ : MethodName) (head1 (Jvm.Cond.code (⟨"java/lang/StringUTF16", "toBytes", "([CII)[B"⟩ : MethodName) jdk_52_method_14_code 5 (some (.array .byte)) :: ws) ({ frames := 2, cells := 1, slots := 2, locals := 24 } : Room)) (fun a U => a = #[(.ref ta), (.int (0 : Int32)), (.int (1 : Int32))] ∧ Z.Warmed39 U.vm ∧ U.heap = h0) (fun _ _ _ _ _ => True) (fun _ U o U' => ∃ v L, o = .returned v ∧ Q_toby1 Z ta ka c0 fm h0 n0 v U'.heap L ∧ FrameEnd U o U' L ({ frames := 2, cells := 1, slots := 2, locals := 24 } : Room).cells ({ frames := 2, cells := 1, slots := 2, locals := 24 } : Room).slots) := by
  refine MetFree.of_bodySF pn_toby1 hisR ?_
  intro p e s m args below meth c s₁ Bd hml0 hP hK
  obtain ⟨rfl, hZ, hh⟩ := hP
  have hx := Bd.exec
  have hby := Bd.bytes
  have hml : c.maxLocals = 5 := hml0
  have hown : s.vm.findClass "java/lang/StringUTF16" = some m.cls := findClass_of_methodNamed Bd.named
  have hnm := (name_of_methodNamed Bd.named Bd.method).1
  have X0 : Stand p l e ({ frames := 2, cells := 1, slots := 2, locals := 24 } : Room) s m #[(.ref ta), (.int (0 : Int32)), (.int (1 : Int32))] below meth c s₁ [] 0 0 := Stand.of_body Bd
  have e0 : s₁.heap = h0 := by rw [← hh, Bd.state]; rfl
  have N0 := Fr.nil n0
  show Rch p e below s₁ (entryFrame m #[(.ref ta), (.int (0 : Int32)), (.int (1 : Int32))] 5) (fun U o => ∃ v L, o = .returned v ∧ Q_toby1 Z ta ka c0 fm h0 n0 v U.heap L ∧ FrameEnd s o U L ({ frames := 2, cells := 1, slots := 2, locals := 24 } : Room).cells ({ frames := 2, cells := 1, slots := 2, locals := 24 } : Room).slots)
  refine Rch.cast (ef_toby1 m ta (0 : Int32) (1 : Int32)) ?_
  show Rch p e below s₁ (mkF m 0 #[vR ta, vI (0 : Int32), vI (1 : Int32), .unset, .unset] []) _
  refine Rch.st (fun _ k => XS.iloadN X0.here hx rfl (hb hby dto_0) rfl k) ?_
  show Rch p e below s₁ (mkF m 1 #[vR ta, vI (0 : Int32), vI (1 : Int32), .unset, .unset] [(.int (1 : Int32))]) _
  obtain ⟨_, _, ⟨T36, L36, k36, n36⟩, -, X36, ⟨Lc36, hQ36, l36, y36, z36⟩, st36⟩ := Jvm.LawKit.callS X0 hx (y := (⟨"java/lang/StringUTF16", "newBytesFor", "(I)[B"⟩ : MethodName)) hown (mvT hZ (wq hw 109 rfl)) (mvT hZ (wq hw 110 rfl)) (mvT hZ (wq hw 38 rfl)) (mvT hZ (wq hw 111 rfl)) (by decide) (backOf (W := 0) (rm_nbf1 l Z a0 hw [] h0 n0 Z0) hZ (wq hw 111 rfl) (wq hw 38 rfl) (by decide) (by decide)) (g := (mkF m 1 #[vR ta, vI (0 : Int32), vI (1 : Int32), .unset, .unset] [(.int (1 : Int32))])) rfl (by rw [hml]; rfl) (argsL := [(.int (1 : Int32))]) (rest := []) (lenOf pd_8 rfl) rfl (by show 2 * 0 + _ ≤ _; exact Nat.le_of_eq rfl) (hb hby dto_1) (fun _ _ => ⟨rfl, e0, (by decide : 0 + 1 ≤ _), (by decide : 0 + 2 ≤ _)⟩)
  dsimp only [Pt.U, Pt.locs, Pt.cells, Pt.slots] at X36 l36 y36 z36 st36 hQ36
  subst l36 y36 z36
  obtain ⟨b36, kb36, rfl, Nq36, E36, le36_, V36⟩ := hQ36
  have N36 := Fr.app N0 Nq36
  have Ex37 : Ext h0 T36.heap := E36
  refine Rch.st st36 ?_
  show Rch p e below T36 (mkF m 4 #[vR ta, vI (0 : Int32), vI (1 : Int32), .unset, .unset] [(.ref b36)]) _
  have leb : n0 ≤ b36 := Nat.le_trans Z0 le36_
  refine Rch.st (fun _ k => XS.astoreN X36.here hx rfl (hb hby dto_4) rfl rfl (l' := #[vR ta, vI (0 : Int32), vI (1 : Int32), vR b36, .unset]) rfl k) ?_
  refine Rch.st (fun _ k => XS.iconst X36.here hx rfl (hb hby dto_5)  k) ?_
  show Rch p e below T36 (mkF m 6 #[vR ta, vI (0 : Int32), vI (1 : Int32), vR b36, .unset] [(.int (0 : Int32))]) _
  refine Rch.st (fun _ k => XS.istore X36.here hx rfl (hb hby dto_6) rfl (l' := #[vR ta, vI (0 : Int32), vI (1 : Int32), vR b36, vI (0 : Int32)]) rfl k) ?_
  refine Rch.st (fun _ k => XS.iload X36.here hx rfl (hb hby dto_8) rfl k) ?_
  show Rch p e below T36 (mkF m 10 #[vR ta, vI (0 : Int32), vI (1 : Int32), vR b36, vI (0 : Int32)] [(.int (0 : Int32))]) _
  refine Rch.st (fun _ k => XS.iloadN X36.here hx rfl (hb hby dto_10) rfl k) ?_
  refine Rch.st (fun _ k => XS.icmpNo X36.here hx rfl (hb hby dto_11) rfl (by decide : if_icmp.holds .ge (0 : Int32) (1 : Int32) = false) k) ?_
  show Rch p e below T36 (mkF m 14 #[vR ta, vI (0 : Int32), vI (1 : Int32), vR b36, vI (0 : Int32)] []) _
  refine Rch.st (fun _ k => XS.aloadN X36.here hx rfl (hb hby dto_14) rfl rfl k) ?_
  refine Rch.st (fun _ k => XS.iload X36.here hx rfl (hb hby dto_15) rfl k) ?_
  show Rch p e below T36 (mkF m 17 #[vR ta, vI (0 : Int32), vI (1 : Int32), vR b36, vI (0 : Int32)] [(.int (0 : Int32)), (.ref b36)]) _
  refine Rch.st (fun _ k => XS.aloadN X36.here hx rfl (hb hby dto_17) rfl rfl k) ?_
  refine Rch.st (fun _ k => XS.iloadN X36.here hx rfl (hb hby dto_18) rfl k) ?_
  show Rch p e below T36 (mkF m 19 #[vR ta, vI (0 : Int32), vI (1 : Int32), vR b36, vI (0 : Int32)] [(.int (0 : Int32)), (.ref ta), (.int (0 : Int32)), (.ref b36)]) _
  refine Rch.st (calA X36 hx hZ rfl (M.ext Ex37) ⟨by decide, by decide⟩ (v := (.int c0)) rfl (g := (mkF m 19 #[vR ta, vI (0 : Int32), vI (1 : Int32), vR b36, vI (0 : Int32)] [(.int (0 : Int32)), (.ref ta), (.int (0 : Int32)), (.ref b36)])) rfl rfl (hb hby dto_19)) ?_
  show Rch p e below T36 (mkF m 20 #[vR ta, vI (0 : Int32), vI (1 : Int32), vR b36, vI (0 : Int32)] [(.int c0), (.int (0 : Int32)), (.ref b36)]) _
  obtain ⟨_, _, ⟨T38, L38, k38, n38⟩, -, X38, ⟨Lc38, hQ38, l38, y38, z38⟩, st38⟩ := Jvm.LawKit.callS X36 hx (y := (⟨"java/lang/StringUTF16", "putChar", "([BII)V"⟩ : MethodName)) hown (mvT hZ (wq hw 116 rfl)) (mvT hZ (wq hw 117 rfl)) (mvT hZ (wq hw 38 rfl)) (mvT hZ (wq hw 118 rfl)) (by decide) (backOf (W := 0) (rm_put l Z a0 hw [] b36 kb36 [(.int (0 : Int32)), (.int (0 : Int32))] 0 c0 fm T36.heap n0 (Nat.le_trans Z0 Ex37.1) (B.ext Ex37) leb V36 (by first | decide | exact Nat.le_of_ble_eq_true rfl) (by first | decide | exact Nat.le_of_ble_eq_true rfl | rfl)) hZ (wq hw 118 rfl) (wq hw 38 rfl) (by decide) (by decide)) (g := (mkF m 20 #[vR ta, vI (0 : Int32), vI (1 : Int32), vR b36, vI (0 : Int32)] [(.int c0), (.int (0 : Int32)), (.ref b36)])) rfl (by rw [hml]; rfl) (argsL := [(.ref b36), (.int (0 : Int32)), (.int c0)]) (rest := []) (lenOf pd_9 rfl) rfl (by show 2 * 0 + _ ≤ _; exact Nat.le_of_eq rfl) (hb hby dto_20) (fun _ _ => ⟨rfl, rfl, (by decide : 1 + 0 ≤ _), (by decide : 2 + 0 ≤ _)⟩)
  dsimp only [Pt.U, Pt.locs, Pt.cells, Pt.slots] at X38 l38 y38 z38 st38 hQ38
  subst l38 y38 z38
  obtain ⟨rfl, Nq38, K38, V38⟩ := hQ38
  have N38 := Fr.app N36 Nq38
  have Ex39 : Ext h0 T38.heap := extKeep1 Ex37 K38 le36_
  refine Rch.st st38 ?_
  show Rch p e below T38 (mkF m 23 #[vR ta, vI (0 : Int32), vI (1 : Int32), vR b36, vI (0 : Int32)] []) _
  refine Rch.st (fun _ k => XS.iinc X38.here hx rfl (hb hby dto_23) rfl (l' := #[vR ta, vI (1 : Int32), vI (1 : Int32), vR b36, vI (0 : Int32)]) rfl k) ?_
  refine Rch.st (fun _ k => XS.iinc X38.here hx rfl (hb hby dto_26) rfl (l' := #[vR ta, vI (1 : Int32), vI (1 : Int32), vR b36, vI (1 : Int32)]) rfl k) ?_
  show Rch p e below T38 (mkF m 29 #[vR ta, vI (1 : Int32), vI (1 : Int32), vR b36, vI (1 : Int32)] []) _
  refine Rch.st (fun _ k => XS.goto X38.here hx rfl (pc0 := 29) (pc' := 8) rfl (hb hby dto_29) (by decide) (by decide) k) ?_
  refine Rch.st (fun _ k => XS.iload X38.here hx rfl (hb hby dto_8) rfl k) ?_
  show Rch p e below T38 (mkF m 10 #[vR ta, vI (1 : Int32), vI (1 : Int32), vR b36, vI (1 : Int32)] [(.int (1 : Int32))]) _
  refine Rch.st (fun _ k => XS.iloadN X38.here hx rfl (hb hby dto_10) rfl k) ?_
  refine Rch.st (fun _ k => XS.icmpYes X38.here hx rfl (pc0 := 11) (pc' := 32) rfl (hb hby dto_11) rfl (by decide : if_icmp.holds .ge (1 : Int32) (1 : Int32) = true) (by decide) (by decide) k) ?_
  show Rch p e below T38 (mkF m 32 #[vR ta, vI (1 : Int32), vI (1 : Int32), vR b36, vI (1 : Int32)] []) _
  refine Rch.st (fun _ k => XS.aloadN X38.here hx rfl (hb hby dto_32) rfl rfl k) ?_
  show Rch p e below T38 (mkF m 33 #[vR ta, vI (1 : Int32), vI (1 : Int32), vR b36, vI (1 : Int32)] [(.ref b36)]) _
  exact Rch.fin (Q := Q_toby1 Z ta ka c0 fm h0 n0) X38 (v := some (.ref b36)) (fun h => by rw [Bd.returns] at h; cases h) (BodyLoose.notSynchronized Bd) (fun fs hr => retR X38 hx Bd.returns rfl rfl (hb hby dto_33) hr) ⟨b36, kb36, rfl, N38, Ex39, le36_, V38⟩ (by decide) (by decide)
theorem pn_cmp1 : plainFor (⟨"java/lang/StringUTF16", "compress", "([CI[BII)I"⟩ : MethodName) = true := by first | exact plainFor_of_name (by first | (simp [plainName, overriddenIn]; done) | decide +kernel) | exact Jvm.Free.JP.mathPlain rfl (by decide +kernel)
theorem ef_cmp1 (m : MethodId) (x0 : Addr) (x1 : Int32) (x2 : Addr) (x3 : Int32) (x4 : Int32) : entryFrame m #[(.ref x0), (.int x1), (.ref x2), (.int x3), (.int x4)] 7 = mkF m 0 #[vR x0, vI x1, vR x2, vI x3, vI x4, .unset, .unset] [] := by first | (simp [entryFrame, mkF, argsToLocals, Value.category]; done) | rfl
def Q_cmp1 (Z : State) (ta tb : Addr) (ka kb : ClassId) (c0 : Int32) (h0 : Heap) (n0 : Nat) (v : Option Value) (h : Heap) (L : List Loc) : Prop := ∃ r, v = some (.int r) ∧ Fr n0 L ∧ Keep h0 h [tb] ∧ ((r = (0 : Int32) ∧ (255 : Int32) < c0))
set_option maxRecDepth 65536 in
set_option maxHeartbeats 40000000 in
theorem rm_cmp1 (l : Launch) (Z : State) (a0 : Array Value) (hw : ∀ d ∈ tables_1, d.before a0 Z = true) (ws : List Jvm.Cond) (ta tb : Addr) (ka kb : ClassId) (c0 : Int32) (h0 : Heap) (n0 : Nat) (Z0 : n0 ≤ h0.size) (hthis : n0 ≤ tb) (ne : ta ≠ tb) (M : Arv Z h0 ta ka .char (1 : Int32) [(.int c0)] (.int 0)) (D : Arv Z h0 tb kb .byte (1 : Int32) [(.int (0 : Int32))] (.int 0)) (hbig : (255 : Int32) < c0) :
    MetFree l (⟨"java/lang/StringUTF16", "compress", "([CI[BII)I"⟩ : MethodName) (head1 (Jvm.Cond.code (⟨"java/lang/StringUTF16", "compress", "([CI[BII)I"⟩ : MethodName) jdk_52_method_21_code 7 (some .int) :: ws) ({ frames := 0, cells := 0, slots := 0, locals := 0 } : Room)) (fun a U => a = #[(.ref ta), (.int (0 : Int32)), (.ref tb), (.int (0 : Int32)), (.int (1 : Int32))] ∧ Z.Warmed39 U.vm ∧ U.heap = h0) (fun _ _ _ _ _ => True) (fun _ U o U' => ∃ v L, o = .returned v ∧ Q_cmp1 Z ta tb ka kb c0 h0 n0 v U'.heap L ∧ FrameEnd U o U' L ({ frames := 0, cells := 0, slots := 0, locals := 0 } : Room).cells ({ frames := 0, cells := 0, slots := 0, locals := 0 } : Room).slots) := by
  refine MetFree.of_bodySF pn_cmp1 hisR ?_
  intro p e s m args below meth c s₁ Bd hml0 hP hK
  obtain ⟨rfl, hZ, hh⟩ := hP
  have hx := Bd.exec
  have hby := Bd.bytes
  have hml : c.maxLocals = 7 := hml0
  have hown : s.vm.findClass "java/lang/StringUTF16" = some m.cls := findClass_of_methodNamed Bd.named
  have hnm := (name_of_methodNamed Bd.named Bd.method).1
  have X0 : Stand p l e ({ frames := 0, cells := 0, slots := 0, locals := 0 } : Room) s m #[(.ref ta), (.int (0 : Int32)), (.ref tb), (.int (0 : Int32)), (.int (1 : Int32))] below meth c s₁ [] 0 0 := Stand.of_body Bd
  have e0 : s₁.heap = h0 := by rw [← hh, Bd.state]; rfl
  have N0 := Fr.nil n0
  show Rch p e below s₁ (entryFrame m #[(.ref ta), (.int (0 : Int32)), (.ref tb), (.int (0 : Int32)), (.int (1 : Int32))] 7) (fun U o => ∃ v L, o = .returned v ∧ Q_cmp1 Z ta tb ka kb c0 h0 n0 v U.heap L ∧ FrameEnd s o U L ({ frames := 0, cells := 0, slots := 0, locals := 0 } : Room).cells ({ frames := 0, cells := 0, slots := 0, locals := 0 } : Room).slots)
  refine Rch.cast (ef_cmp1 m ta (0 : Int32) tb (0 : Int32) (1 : Int32)) ?_
  show Rch p e below s₁ (mkF m 0 #[vR ta, vI (0 : Int32), vR tb, vI (0 : Int32), vI (1 : Int32), .unset, .unset] []) _
  refine Rch.st (fun _ k => XS.iconst X0.here hx rfl (hb hby dc5_0)  k) ?_
  refine Rch.st (fun _ k => XS.istore X0.here hx rfl (hb hby dc5_1) rfl (l' := #[vR ta, vI (0 : Int32), vR tb, vI (0 : Int32), vI (1 : Int32), vI (0 : Int32), .unset]) rfl k) ?_
  show Rch p e below s₁ (mkF m 3 #[vR ta, vI (0 : Int32), vR tb, vI (0 : Int32), vI (1 : Int32), vI (0 : Int32), .unset] []) _
  refine Rch.st (fun _ k => XS.iload X0.here hx rfl (hb hby dc5_3) rfl k) ?_
  refine Rch.st (fun _ k => XS.iload X0.here hx rfl (hb hby dc5_5) rfl k) ?_
  show Rch p e below s₁ (mkF m 7 #[vR ta, vI (0 : Int32), vR tb, vI (0 : Int32), vI (1 : Int32), vI (0 : Int32), .unset] [(.int (1 : Int32)), (.int (0 : Int32))]) _
  refine Rch.st (fun _ k => XS.icmpNo X0.here hx rfl (hb hby dc5_7) rfl (by decide : if_icmp.holds .ge (0 : Int32) (1 : Int32) = false) k) ?_
  refine Rch.st (fun _ k => XS.aloadN X0.here hx rfl (hb hby dc5_10) rfl rfl k) ?_
  show Rch p e below s₁ (mkF m 11 #[vR ta, vI (0 : Int32), vR tb, vI (0 : Int32), vI (1 : Int32), vI (0 : Int32), .unset] [(.ref ta)]) _
  refine Rch.st (fun _ k => XS.iloadN X0.here hx rfl (hb hby dc5_11) rfl k) ?_
  show Rch p e below s₁ (mkF m 12 #[vR ta, vI (0 : Int32), vR tb, vI (0 : Int32), vI (1 : Int32), vI (0 : Int32), .unset] [(.int (0 : Int32)), (.ref ta)]) _
  refine Rch.st (calA X0 hx hZ e0 M ⟨by decide, by decide⟩ (v := (.int c0)) rfl (g := (mkF m 12 #[vR ta, vI (0 : Int32), vR tb, vI (0 : Int32), vI (1 : Int32), vI (0 : Int32), .unset] [(.int (0 : Int32)), (.ref ta)])) rfl rfl (hb hby dc5_12)) ?_
  show Rch p e below s₁ (mkF m 13 #[vR ta, vI (0 : Int32), vR tb, vI (0 : Int32), vI (1 : Int32), vI (0 : Int32), .unset] [(.int c0)]) _
  refine Rch.st (fun _ k => XS.istore X0.here hx rfl (hb hby dc5_13) rfl (l' := #[vR ta, vI (0 : Int32), vR tb, vI (0 : Int32), vI (1 : Int32), vI (0 : Int32), vI c0]) rfl k) ?_
  refine Rch.st (fun _ k => XS.iload X0.here hx rfl (hb hby dc5_15) rfl k) ?_
  show Rch p e below s₁ (mkF m 17 #[vR ta, vI (0 : Int32), vR tb, vI (0 : Int32), vI (1 : Int32), vI (0 : Int32), vI c0] [(.int c0)]) _
  refine Rch.st (fun _ k => XS.sipush X0.here hx rfl (hb hby dc5_17)  k) ?_
  show Rch p e below s₁ (mkF m 20 #[vR ta, vI (0 : Int32), vR tb, vI (0 : Int32), vI (1 : Int32), vI (0 : Int32), vI c0] [(.int (255 : Int32)), (.int c0)]) _
  by_cases hbd0 : (255 : Int32) < c0
  · skip
    refine Rch.st (fun _ k => XS.icmpNo X0.here hx rfl (hb hby dc5_20) rfl (tlt hbd0).2.2.2 k) ?_
    refine Rch.st (fun _ k => XS.iload X0.here hx rfl (hb hby dc5_23) rfl k) ?_
    show Rch p e below s₁ (mkF m 25 #[vR ta, vI (0 : Int32), vR tb, vI (0 : Int32), vI (1 : Int32), vI (0 : Int32), vI c0] [(.int (0 : Int32))]) _
    exact Rch.fin (Q := Q_cmp1 Z ta tb ka kb c0 h0 n0) X0 (v := some (.int (0 : Int32))) (fun h => by rw [Bd.returns] at h; cases h) (BodyLoose.notSynchronized Bd) (fun fs hr => retI X0 hx Bd.returns (hb hby dc5_25) hr) (by rw [e0]; exact ⟨(0 : Int32), rfl, N0, (Keep.refl _ _), ⟨rfl, hbd0⟩⟩) (by decide) (by decide)
  · skip
    refine Rch.st (fun _ k => XS.icmpYes X0.here hx rfl (pc0 := 20) (pc' := 26) rfl (hb hby dc5_20) rfl (flt hbd0).2.2.2 (by decide) (by decide) k) ?_
    refine Rch.st (fun _ k => XS.aloadN X0.here hx rfl (hb hby dc5_26) rfl rfl k) ?_
    show Rch p e below s₁ (mkF m 27 #[vR ta, vI (0 : Int32), vR tb, vI (0 : Int32), vI (1 : Int32), vI (0 : Int32), vI c0] [(.ref tb)]) _
    refine Rch.st (fun _ k => XS.iloadN X0.here hx rfl (hb hby dc5_27) rfl k) ?_
    refine Rch.st (fun _ k => XS.iload X0.here hx rfl (hb hby dc5_28) rfl k) ?_
    show Rch p e below s₁ (mkF m 30 #[vR ta, vI (0 : Int32), vR tb, vI (0 : Int32), vI (1 : Int32), vI (0 : Int32), vI c0] [(.int c0), (.int (0 : Int32)), (.ref tb)]) _
    refine Rch.st (fun _ k => XT.i2b X0.here hx rfl (hb hby dc5_30) rfl k) ?_
    show Rch p e below s₁ (mkF m 31 #[vR ta, vI (0 : Int32), vR tb, vI (0 : Int32), vI (1 : Int32), vI (0 : Int32), vI c0] [(.int (c0.toInt8.toInt32)), (.int (0 : Int32)), (.ref tb)]) _
    obtain ⟨T40, h40, L40, sl40, X40, e40, W40, V40, N40, st40⟩ := stBv X0 hx hZ e0 D N0 hthis (j := (0 : Int32)) ⟨by decide, by decide⟩ 0 rfl (Nat.le_of_ble_eq_true rfl) (g := (mkF m 31 #[vR ta, vI (0 : Int32), vR tb, vI (0 : Int32), vI (1 : Int32), vI (0 : Int32), vI c0] [(.int (c0.toInt8.toInt32)), (.int (0 : Int32)), (.ref tb)])) rfl rfl (hb hby dc5_31)
    have D40 : Arv Z h40 tb kb .byte (1 : Int32) [(.int (nar .byte c0.toInt8.toInt32))] (.int 0) := V40
    have M40 := (M).other W40 ne
    have K40 : Keep h0 h40 [tb] := (Keep.refl _ _).wr W40 (Or.inl (List.mem_singleton.mpr rfl))
    refine Rch.st st40 ?_
    show Rch p e below T40 (mkF m 32 #[vR ta, vI (0 : Int32), vR tb, vI (0 : Int32), vI (1 : Int32), vI (0 : Int32), vI c0] []) _
    refine Rch.st (fun _ k => XS.iinc X40.here hx rfl (hb hby dc5_32) rfl (l' := #[vR ta, vI (1 : Int32), vR tb, vI (0 : Int32), vI (1 : Int32), vI (0 : Int32), vI c0]) rfl k) ?_
    refine Rch.st (fun _ k => XS.iinc X40.here hx rfl (hb hby dc5_35) rfl (l' := #[vR ta, vI (1 : Int32), vR tb, vI (1 : Int32), vI (1 : Int32), vI (0 : Int32), vI c0]) rfl k) ?_
    show Rch p e below T40 (mkF m 38 #[vR ta, vI (1 : Int32), vR tb, vI (1 : Int32), vI (1 : Int32), vI (0 : Int32), vI c0] []) _
    refine Rch.st (fun _ k => XS.iinc X40.here hx rfl (hb hby dc5_38) rfl (l' := #[vR ta, vI (1 : Int32), vR tb, vI (1 : Int32), vI (1 : Int32), vI (1 : Int32), vI c0]) rfl k) ?_
    refine Rch.st (fun _ k => XS.goto X40.here hx rfl (pc0 := 41) (pc' := 3) rfl (hb hby dc5_41) (by decide) (by decide) k) ?_
    show Rch p e below T40 (mkF m 3 #[vR ta, vI (1 : Int32), vR tb, vI (1 : Int32), vI (1 : Int32), vI (1 : Int32), vI c0] []) _
    refine Rch.st (fun _ k => XS.iload X40.here hx rfl (hb hby dc5_3) rfl k) ?_
    refine Rch.st (fun _ k => XS.iload X40.here hx rfl (hb hby dc5_5) rfl k) ?_
    show Rch p e below T40 (mkF m 7 #[vR ta, vI (1 : Int32), vR tb, vI (1 : Int32), vI (1 : Int32), vI (1 : Int32), vI c0] [(.int (1 : Int32)), (.int (1 : Int32))]) _
    exfalso
    have q := hbig
    exact hbd0 q
theorem pn_nbf2 : plainFor (⟨"java/lang/StringUTF16", "newBytesFor", "(I)[B"⟩ : MethodName) = true := by first | exact plainFor_of_name (by first | (simp [plainName, overriddenIn]; done) | decide +kernel) | exact Jvm.Free.JP.mathPlain rfl (by decide +kernel)
theorem ef_nbf2 (m : MethodId) (x0 : Int32) : entryFrame m #[(.int x0)] 1 = mkF m 0 #[vI x0] [] := by first | (simp [entryFrame, mkF, argsToLocals, Value.category]; done) | rfl
def Q_nbf2 (Z : State)  (h0 : Heap) (n0 : Nat) (v : Option Value) (h : Heap) (L : List Loc) : Prop := ∃ b k, v = some (.ref b) ∧ Fr n0 L ∧ Ext h0 h ∧ h0.size ≤ b ∧ Arv Z h b k .byte (4 : Int32) [(.int (0 : Int32)), (.int (0 : Int32)), (.int (0 : Int32)), (.int (0 : Int32))] (.int 0)
set_option maxRecDepth 65536 in
set_option maxHeartbeats 40000000 in
theorem rm_nbf2 (l : Launch) (Z : State) (a0 : Array Value) (hw : ∀ d ∈ tables_1, d.before a0 Z = true) (ws : List Jvm.Cond) (h0 : Heap) (n0 : Nat) (Z0 : n0 ≤ h0.size) :
    MetFree l (⟨"java/lang/StringUTF16", "newBytesFor", "(I)[B"⟩ : MethodName) (head1 (Jvm.Cond.code (⟨"java/lang/StringUTF16", "newBytesFor", "(I)[B"⟩ : MethodName) jdk_52_method_2_code 1 (some (.array .byte)) :: ws) ({ frames := 1, cells := 1, slots := 4, locals := 12 } : Room)) (fun a U => a = #[(.int (2 : Int32))] ∧ Z.Warmed39 U.vm ∧ U.heap = h0) (fun _ _ _ _ _ => True) (fun _ U o U' => ∃ v L, o = .returned v ∧ Q_nbf2 Z  h0 n0 v U'.heap L ∧ FrameEnd U o U' L ({ frames := 1, cells := 1, slots := 4, locals := 12 } : Room).cells ({ frames := 1, cells := 1, slots := 4, locals := 12 } : Room).slots) := by
  refine MetFree.of_bodySF pn_nbf2 hisR ?_
  intro p e s m args below meth c s₁ Bd hml0 hP hK
  obtain ⟨rfl, hZ, hh⟩ := hP
  have hx := Bd.exec
  have hby := Bd.bytes
  have hml : c.maxLocals = 1 := hml0
  have hown : s.vm.findClass "java/lang/StringUTF16" = some m.cls := findClass_of_methodNamed Bd.named
  have hnm := (name_of_methodNamed Bd.named Bd.method).1
  have X0 : Stand p l e ({ frames := 1, cells := 1, slots := 4, locals := 12 } : Room) s m #[(.int (2 : Int32))] below meth c s₁ [] 0 0 := Stand.of_body Bd
  have e0 : s₁.heap = h0 := by rw [← hh, Bd.state]; rfl
  have N0 := Fr.nil n0
  show Rch p e below s₁ (entryFrame m #[(.int (2 : Int32))] 1) (fun U o => ∃ v L, o = .returned v ∧ Q_nbf2 Z  h0 n0 v U.heap L ∧ FrameEnd s o U L ({ frames := 1, cells := 1, slots := 4, locals := 12 } : Room).cells ({ frames := 1, cells := 1, slots := 4, locals := 12 } : Room).slots)
  refine Rch.cast (ef_nbf2 m (2 : Int32)) ?_
  show Rch p e below s₁ (mkF m 0 #[vI (2 : Int32)] []) _
  refine Rch.st (fun _ k => XS.iloadN X0.here hx rfl (hb hby dnf_0) rfl k) ?_
  show Rch p e below s₁ (mkF m 1 #[vI (2 : Int32)] [(.int (2 : Int32))]) _
  obtain ⟨_, _, ⟨T50, L50, k50, n50⟩, -, X50, ⟨Lc50, hQ50, l50, y50, z50⟩, st50⟩ := Jvm.LawKit.callS X0 hx (y := (⟨"java/lang/StringUTF16", "newBytesLength", "(I)I"⟩ : MethodName)) hown (mvT hZ (wq hw 112 rfl)) (mvT hZ (wq hw 113 rfl)) (mvT hZ (wq hw 38 rfl)) (mvT hZ (wq hw 114 rfl)) (by decide) (backOf (W := 0) (rm_nbl l Z a0 hw [] (2 : Int32) h0 n0 Z0 (by decide) (by decide)) hZ (wq hw 114 rfl) (wq hw 38 rfl) (by decide) (by decide)) (g := (mkF m 1 #[vI (2 : Int32)] [(.int (2 : Int32))])) rfl (by rw [hml]; rfl) (argsL := [(.int (2 : Int32))]) (rest := []) (lenOf pd_7 rfl) rfl (by show 2 * 0 + _ ≤ _; exact Nat.le_of_eq rfl) (hb hby dnf_1) (fun _ _ => ⟨rfl, e0, (by decide : 0 + 0 ≤ _), (by decide : 0 + 0 ≤ _)⟩)
  dsimp only [Pt.U, Pt.locs, Pt.cells, Pt.slots] at X50 l50 y50 z50 st50 hQ50
  subst l50 y50 z50
  obtain ⟨rfl, Nq50, e50⟩ := hQ50
  have N50 := Fr.app N0 Nq50
  refine Rch.st st50 ?_
  show Rch p e below T50 (mkF m 4 #[vI (2 : Int32)] [(.int (4 : Int32))]) _
  obtain ⟨T51, h51, k51, X51, e51, E51, A51, st51⟩ := newP X50 hx hZ (wq hw 15 rfl) e50 (g := (mkF m 4 #[vI (2 : Int32)] [(.int (4 : Int32))])) rfl (hb hby dnf_4) rfl (by decide : ¬ ((4 : Int32) < (0 : Int32))) (cap := 4) (by decide : ((4 : Int32)).toNatClampNeg ≤ 4) (by decide) (by decide) (by decide)
  obtain ⟨a51, g51⟩ : ∃ z, z = h0.size := ⟨_, rfl⟩
  rw [← g51] at A51 st51
  have Ex52 : Ext h0 h51 := E51
  have le53 : h0.size ≤ a51 := Nat.le_of_eq g51.symm
  refine Rch.st st51 ?_
  show Rch p e below T51 (mkF m 6 #[vI (2 : Int32)] [(.ref a51)]) _
  have V51 : Arv Z h51 a51 k51 .byte (4 : Int32) [(.int (0 : Int32)), (.int (0 : Int32)), (.int (0 : Int32)), (.int (0 : Int32))] (.int (0 : Int32)) := (Arv.new A51 (by decide : ¬ ((4 : Int32) < (0 : Int32)))).pad (pad_rep [] (.int (0 : Int32)) 4)
  exact Rch.fin (Q := Q_nbf2 Z  h0 n0) X51 (v := some (.ref a51)) (fun h => by rw [Bd.returns] at h; cases h) (BodyLoose.notSynchronized Bd) (fun fs hr => retR X51 hx Bd.returns rfl rfl (hb hby dnf_6) hr) (by rw [e51]; exact ⟨a51, k51, rfl, N50, Ex52, le53, V51⟩) (by decide) (by decide)
theorem pn_toby2 : plainFor (⟨"java/lang/StringUTF16", "toBytes", "([CII)[B"⟩ : MethodName) = true := by first | exact plainFor_of_name (by first | (simp [plainName, overriddenIn]; done) | decide +kernel) | exact Jvm.Free.JP.mathPlain rfl (by decide +kernel)
theorem ef_toby2 (m : MethodId) (x0 : Addr) (x1 : Int32) (x2 : Int32) : entryFrame m #[(.ref x0), (.int x1), (.int x2)] 5 = mkF m 0 #[vR x0, vI x1, vI x2, .unset, .unset] [] := by first | (simp [entryFrame, mkF, argsToLocals, Value.category]; done) | rfl
def Q_toby2 (Z : State) (ta : Addr) (ka : ClassId) (c0 c1 : Int32) (fm : Value) (h0 : Heap) (n0 : Nat) (v : Option Value) (h : Heap) (L : List Loc) : Prop := ∃ b k, v = some (.ref b) ∧ Fr n0 L ∧ Ext h0 h ∧ h0.size ≤ b ∧ Arv Z h b k .byte (4 : Int32) (StrChars.Road.wideBytes [c0, c1]) (.int 0)
set_option maxRecDepth 65536 in
set_option maxHeartbeats 40000000 in
theorem rm_toby2 (l : Launch) (Z : State) (a0 : Array Value) (hw : ∀ d ∈ tables_1, d.before a0 Z = true) (ws : List Jvm.Cond) (ta : Addr) (ka : ClassId) (c0 c1 : Int32) (fm : Value) (h0 : Heap) (n0 : Nat) (Z0 : n0 ≤ h0.size) (B : Bg Z h0 fm) (M : Arv Z h0 ta ka .char (2 : Int32) [(.int c0), (.int c1)] (.int 0)) :
    MetFree l (⟨"java/lang/StringUTF16", "toBytes", "([CII)[B"⟩ : MethodName) (head1 (Jvm.Cond.code (⟨"java/lang/StringUTF16", "toBytes", "([CII)[B"⟩ : MethodName) jdk_52_method_14_code 5 (some (.array .byte)) :: ws) ({ frames := 2, cells := 1, slots := 4, locals := 24 } : Room)) (fun a U => a = #[(.ref ta), (.int (0 : Int32)), (.int (2 : Int32))] ∧ Z.Warmed39 U.vm ∧ U.heap = h0) (fun _ _ _ _ _ => True) (fun _ U o U' => ∃ v L, o = .returned v ∧ Q_toby2 Z ta ka c0 c1 fm h0 n0 v U'.heap L ∧ FrameEnd U o U' L ({ frames := 2, cells := 1, slots := 4, locals := 24 } : Room).cells ({ frames := 2, cells := 1, slots := 4, locals := 24 } : Room).slots) := by
  refine MetFree.of_bodySF pn_toby2 hisR ?_
  intro p e s m args below meth c s₁ Bd hml0 hP hK
  obtain ⟨rfl, hZ, hh⟩ := hP
  have hx := Bd.exec
  have hby := Bd.bytes
  have hml : c.maxLocals = 5 := hml0
  have hown : s.vm.findClass "java/lang/StringUTF16" = some m.cls := findClass_of_methodNamed Bd.named
  have hnm := (name_of_methodNamed Bd.named Bd.method).1
  have X0 : Stand p l e ({ frames := 2, cells := 1, slots := 4, locals := 24 } : Room) s m #[(.ref ta), (.int (0 : Int32)), (.int (2 : Int32))] below meth c s₁ [] 0 0 := Stand.of_body Bd
  have e0 : s₁.heap = h0 := by rw [← hh, Bd.state]; rfl
  have N0 := Fr.nil n0
  show Rch p e below s₁ (entryFrame m #[(.ref ta), (.int (0 : Int32)), (.int (2 : Int32))] 5) (fun U o => ∃ v L, o = .returned v ∧ Q_toby2 Z ta ka c0 c1 fm h0 n0 v U.heap L ∧ FrameEnd s o U L ({ frames := 2, cells := 1, slots := 4, locals := 24 } : Room).cells ({ frames := 2, cells := 1, slots := 4, locals := 24 } : Room).slots)
  refine Rch.cast (ef_toby2 m ta (0 : Int32) (2 : Int32)) ?_
  show Rch p e below s₁ (mkF m 0 #[vR ta, vI (0 : Int32), vI (2 : Int32), .unset, .unset] []) _
  refine Rch.st (fun _ k => XS.iloadN X0.here hx rfl (hb hby dto_0) rfl k) ?_
  show Rch p e below s₁ (mkF m 1 #[vR ta, vI (0 : Int32), vI (2 : Int32), .unset, .unset] [(.int (2 : Int32))]) _
  obtain ⟨_, _, ⟨T54, L54, k54, n54⟩, -, X54, ⟨Lc54, hQ54, l54, y54, z54⟩, st54⟩ := Jvm.LawKit.callS X0 hx (y := (⟨"java/lang/StringUTF16", "newBytesFor", "(I)[B"⟩ : MethodName)) hown (mvT hZ (wq hw 109 rfl)) (mvT hZ (wq hw 110 rfl)) (mvT hZ (wq hw 38 rfl)) (mvT hZ (wq hw 111 rfl)) (by decide) (backOf (W := 0) (rm_nbf2 l Z a0 hw [] h0 n0 Z0) hZ (wq hw 111 rfl) (wq hw 38 rfl) (by decide) (by decide)) (g := (mkF m 1 #[vR ta, vI (0 : Int32), vI (2 : Int32), .unset, .unset] [(.int (2 : Int32))])) rfl (by rw [hml]; rfl) (argsL := [(.int (2 : Int32))]) (rest := []) (lenOf pd_8 rfl) rfl (by show 2 * 0 + _ ≤ _; exact Nat.le_of_eq rfl) (hb hby dto_1) (fun _ _ => ⟨rfl, e0, (by decide : 0 + 1 ≤ _), (by decide : 0 + 4 ≤ _)⟩)
  dsimp only [Pt.U, Pt.locs, Pt.cells, Pt.slots] at X54 l54 y54 z54 st54 hQ54
  subst l54 y54 z54
  obtain ⟨b54, kb54, rfl, Nq54, E54, le54_, V54⟩ := hQ54
  have N54 := Fr.app N0 Nq54
  have Ex55 : Ext h0 T54.heap := E54
  refine Rch.st st54 ?_
  show Rch p e below T54 (mkF m 4 #[vR ta, vI (0 : Int32), vI (2 : Int32), .unset, .unset] [(.ref b54)]) _
  have leb : n0 ≤ b54 := Nat.le_trans Z0 le54_
  refine Rch.st (fun _ k => XS.astoreN X54.here hx rfl (hb hby dto_4) rfl rfl (l' := #[vR ta, vI (0 : Int32), vI (2 : Int32), vR b54, .unset]) rfl k) ?_
  refine Rch.st (fun _ k => XS.iconst X54.here hx rfl (hb hby dto_5)  k) ?_
  show Rch p e below T54 (mkF m 6 #[vR ta, vI (0 : Int32), vI (2 : Int32), vR b54, .unset] [(.int (0 : Int32))]) _
  refine Rch.st (fun _ k => XS.istore X54.here hx rfl (hb hby dto_6) rfl (l' := #[vR ta, vI (0 : Int32), vI (2 : Int32), vR b54, vI (0 : Int32)]) rfl k) ?_
  refine Rch.st (fun _ k => XS.iload X54.here hx rfl (hb hby dto_8) rfl k) ?_
  show Rch p e below T54 (mkF m 10 #[vR ta, vI (0 : Int32), vI (2 : Int32), vR b54, vI (0 : Int32)] [(.int (0 : Int32))]) _
  refine Rch.st (fun _ k => XS.iloadN X54.here hx rfl (hb hby dto_10) rfl k) ?_
  refine Rch.st (fun _ k => XS.icmpNo X54.here hx rfl (hb hby dto_11) rfl (by decide : if_icmp.holds .ge (0 : Int32) (2 : Int32) = false) k) ?_
  show Rch p e below T54 (mkF m 14 #[vR ta, vI (0 : Int32), vI (2 : Int32), vR b54, vI (0 : Int32)] []) _
  refine Rch.st (fun _ k => XS.aloadN X54.here hx rfl (hb hby dto_14) rfl rfl k) ?_
  refine Rch.st (fun _ k => XS.iload X54.here hx rfl (hb hby dto_15) rfl k) ?_
  show Rch p e below T54 (mkF m 17 #[vR ta, vI (0 : Int32), vI (2 : Int32), vR b54, vI (0 : Int32)] [(.int (0 : Int32)), (.ref b54)]) _
  refine Rch.st (fun _ k => XS.aloadN X54.here hx rfl (hb hby dto_17) rfl rfl k) ?_
  refine Rch.st (fun _ k => XS.iloadN X54.here hx rfl (hb hby dto_18) rfl k) ?_
  show Rch p e below T54 (mkF m 19 #[vR ta, vI (0 : Int32), vI (2 : Int32), vR b54, vI (0 : Int32)] [(.int (0 : Int32)), (.ref ta), (.int (0 : Int32)), (.ref b54)]) _
  refine Rch.st (calA X54 hx hZ rfl (M.ext Ex55) ⟨by decide, by decide⟩ (v := (.int c0)) rfl (g := (mkF m 19 #[vR ta, vI (0 : Int32), vI (2 : Int32), vR b54, vI (0 : Int32)] [(.int (0 : Int32)), (.ref ta), (.int (0 : Int32)), (.ref b54)])) rfl rfl (hb hby dto_19)) ?_
  show Rch p e below T54 (mkF m 20 #[vR ta, vI (0 : Int32), vI (2 : Int32), vR b54, vI (0 : Int32)] [(.int c0), (.int (0 : Int32)), (.ref b54)]) _
  obtain ⟨_, _, ⟨T56, L56, k56, n56⟩, -, X56, ⟨Lc56, hQ56, l56, y56, z56⟩, st56⟩ := Jvm.LawKit.callS X54 hx (y := (⟨"java/lang/StringUTF16", "putChar", "([BII)V"⟩ : MethodName)) hown (mvT hZ (wq hw 116 rfl)) (mvT hZ (wq hw 117 rfl)) (mvT hZ (wq hw 38 rfl)) (mvT hZ (wq hw 118 rfl)) (by decide) (backOf (W := 0) (rm_put l Z a0 hw [] b54 kb54 [(.int (0 : Int32)), (.int (0 : Int32)), (.int (0 : Int32)), (.int (0 : Int32))] 0 c0 fm T54.heap n0 (Nat.le_trans Z0 Ex55.1) (B.ext Ex55) leb V54 (by first | decide | exact Nat.le_of_ble_eq_true rfl) (by first | decide | exact Nat.le_of_ble_eq_true rfl | rfl)) hZ (wq hw 118 rfl) (wq hw 38 rfl) (by decide) (by decide)) (g := (mkF m 20 #[vR ta, vI (0 : Int32), vI (2 : Int32), vR b54, vI (0 : Int32)] [(.int c0), (.int (0 : Int32)), (.ref b54)])) rfl (by rw [hml]; rfl) (argsL := [(.ref b54), (.int (0 : Int32)), (.int c0)]) (rest := []) (lenOf pd_9 rfl) rfl (by show 2 * 0 + _ ≤ _; exact Nat.le_of_eq rfl) (hb hby dto_20) (fun _ _ => ⟨rfl, rfl, (by decide : 1 + 0 ≤ _), (by decide : 4 + 0 ≤ _)⟩)
  dsimp only [Pt.U, Pt.locs, Pt.cells, Pt.slots] at X56 l56 y56 z56 st56 hQ56
  subst l56 y56 z56
  obtain ⟨rfl, Nq56, K56, V56⟩ := hQ56
  have N56 := Fr.app N54 Nq56
  have Ex57 : Ext h0 T56.heap := extKeep1 Ex55 K56 le54_
  refine Rch.st st56 ?_
  show Rch p e below T56 (mkF m 23 #[vR ta, vI (0 : Int32), vI (2 : Int32), vR b54, vI (0 : Int32)] []) _
  refine Rch.st (fun _ k => XS.iinc X56.here hx rfl (hb hby dto_23) rfl (l' := #[vR ta, vI (1 : Int32), vI (2 : Int32), vR b54, vI (0 : Int32)]) rfl k) ?_
  refine Rch.st (fun _ k => XS.iinc X56.here hx rfl (hb hby dto_26) rfl (l' := #[vR ta, vI (1 : Int32), vI (2 : Int32), vR b54, vI (1 : Int32)]) rfl k) ?_
  show Rch p e below T56 (mkF m 29 #[vR ta, vI (1 : Int32), vI (2 : Int32), vR b54, vI (1 : Int32)] []) _
  refine Rch.st (fun _ k => XS.goto X56.here hx rfl (pc0 := 29) (pc' := 8) rfl (hb hby dto_29) (by decide) (by decide) k) ?_
  refine Rch.st (fun _ k => XS.iload X56.here hx rfl (hb hby dto_8) rfl k) ?_
  show Rch p e below T56 (mkF m 10 #[vR ta, vI (1 : Int32), vI (2 : Int32), vR b54, vI (1 : Int32)] [(.int (1 : Int32))]) _
  refine Rch.st (fun _ k => XS.iloadN X56.here hx rfl (hb hby dto_10) rfl k) ?_
  refine Rch.st (fun _ k => XS.icmpNo X56.here hx rfl (hb hby dto_11) rfl (by decide : if_icmp.holds .ge (1 : Int32) (2 : Int32) = false) k) ?_
  show Rch p e below T56 (mkF m 14 #[vR ta, vI (1 : Int32), vI (2 : Int32), vR b54, vI (1 : Int32)] []) _
  refine Rch.st (fun _ k => XS.aloadN X56.here hx rfl (hb hby dto_14) rfl rfl k) ?_
  refine Rch.st (fun _ k => XS.iload X56.here hx rfl (hb hby dto_15) rfl k) ?_
  show Rch p e below T56 (mkF m 17 #[vR ta, vI (1 : Int32), vI (2 : Int32), vR b54, vI (1 : Int32)] [(.int (1 : Int32)), (.ref b54)]) _
  refine Rch.st (fun _ k => XS.aloadN X56.here hx rfl (hb hby dto_17) rfl rfl k) ?_
  refine Rch.st (fun _ k => XS.iloadN X56.here hx rfl (hb hby dto_18) rfl k) ?_
  show Rch p e below T56 (mkF m 19 #[vR ta, vI (1 : Int32), vI (2 : Int32), vR b54, vI (1 : Int32)] [(.int (1 : Int32)), (.ref ta), (.int (1 : Int32)), (.ref b54)]) _
  refine Rch.st (calA X56 hx hZ rfl (M.ext Ex57) ⟨by decide, by decide⟩ (v := (.int c1)) rfl (g := (mkF m 19 #[vR ta, vI (1 : Int32), vI (2 : Int32), vR b54, vI (1 : Int32)] [(.int (1 : Int32)), (.ref ta), (.int (1 : Int32)), (.ref b54)])) rfl rfl (hb hby dto_19)) ?_
  show Rch p e below T56 (mkF m 20 #[vR ta, vI (1 : Int32), vI (2 : Int32), vR b54, vI (1 : Int32)] [(.int c1), (.int (1 : Int32)), (.ref b54)]) _
  obtain ⟨_, _, ⟨T58, L58, k58, n58⟩, -, X58, ⟨Lc58, hQ58, l58, y58, z58⟩, st58⟩ := Jvm.LawKit.callS X56 hx (y := (⟨"java/lang/StringUTF16", "putChar", "([BII)V"⟩ : MethodName)) hown (mvT hZ (wq hw 116 rfl)) (mvT hZ (wq hw 117 rfl)) (mvT hZ (wq hw 38 rfl)) (mvT hZ (wq hw 118 rfl)) (by decide) (backOf (W := 0) (rm_put l Z a0 hw [] b54 kb54 [(.int (StrChars.lo8 c0)), (.int (StrChars.hi8 c0)), (.int (0 : Int32)), (.int (0 : Int32))] 1 c1 fm T56.heap n0 (Nat.le_trans Z0 Ex57.1) (B.ext Ex57) leb V56 (by first | decide | exact Nat.le_of_ble_eq_true rfl) (by first | decide | exact Nat.le_of_ble_eq_true rfl | rfl)) hZ (wq hw 118 rfl) (wq hw 38 rfl) (by decide) (by decide)) (g := (mkF m 20 #[vR ta, vI (1 : Int32), vI (2 : Int32), vR b54, vI (1 : Int32)] [(.int c1), (.int (1 : Int32)), (.ref b54)])) rfl (by rw [hml]; rfl) (argsL := [(.ref b54), (.int (1 : Int32)), (.int c1)]) (rest := []) (lenOf pd_9 rfl) rfl (by show 2 * 0 + _ ≤ _; exact Nat.le_of_eq rfl) (hb hby dto_20) (fun _ _ => ⟨rfl, rfl, (by decide : 1 + 0 ≤ _), (by decide : 4 + 0 ≤ _)⟩)
  dsimp only [Pt.U, Pt.locs, Pt.cells, Pt.slots] at X58 l58 y58 z58 st58 hQ58
  subst l58 y58 z58
  obtain ⟨rfl, Nq58, K58, V58⟩ := hQ58
  have N58 := Fr.app N56 Nq58
  have Ex59 : Ext h0 T58.heap := extKeep1 Ex57 K58 le54_
  refine Rch.st st58 ?_
  show Rch p e below T58 (mkF m 23 #[vR ta, vI (1 : Int32), vI (2 : Int32), vR b54, vI (1 : Int32)] []) _
  refine Rch.st (fun _ k => XS.iinc X58.here hx rfl (hb hby dto_23) rfl (l' := #[vR ta, vI (2 : Int32), vI (2 : Int32), vR b54, vI (1 : Int32)]) rfl k) ?_
  refine Rch.st (fun _ k => XS.iinc X58.here hx rfl (hb hby dto_26) rfl (l' := #[vR ta, vI (2 : Int32), vI (2 : Int32), vR b54, vI (2 : Int32)]) rfl k) ?_
  show Rch p e below T58 (mkF m 29 #[vR ta, vI (2 : Int32), vI (2 : Int32), vR b54, vI (2 : Int32)] []) _
  refine Rch.st (fun _ k => XS.goto X58.here hx rfl (pc0 := 29) (pc' := 8) rfl (hb hby dto_29) (by decide) (by decide) k) ?_
  refine Rch.st (fun _ k => XS.iload X58.here hx rfl (hb hby dto_8) rfl k) ?_
  show Rch p e below T58 (mkF m 10 #[vR ta, vI (2 : Int32), vI (2 : Int32), vR b54, vI (2 : Int32)] [(.int (2 : Int32))]) _
  refine Rch.st (fun _ k => XS.iloadN X58.here hx rfl (hb hby dto_10) rfl k) ?_
  refine Rch.st (fun _ k => XS.icmpYes X58.here hx rfl (pc0 := 11) (pc' := 32) rfl (hb hby dto_11) rfl (by decide : if_icmp.holds .ge (2 : Int32) (2 : Int32) = true) (by decide) (by decide) k) ?_
  show Rch p e below T58 (mkF m 32 #[vR ta, vI (2 : Int32), vI (2 : Int32), vR b54, vI (2 : Int32)] []) _
  refine Rch.st (fun _ k => XS.aloadN X58.here hx rfl (hb hby dto_32) rfl rfl k) ?_
  show Rch p e below T58 (mkF m 33 #[vR ta, vI (2 : Int32), vI (2 : Int32), vR b54, vI (2 : Int32)] [(.ref b54)]) _
  exact Rch.fin (Q := Q_toby2 Z ta ka c0 c1 fm h0 n0) X58 (v := some (.ref b54)) (fun h => by rw [Bd.returns] at h; cases h) (BodyLoose.notSynchronized Bd) (fun fs hr => retR X58 hx Bd.returns rfl rfl (hb hby dto_33) hr) ⟨b54, kb54, rfl, N58, Ex59, le54_, V58⟩ (by decide) (by decide)
theorem pn_cmp2 : plainFor (⟨"java/lang/StringUTF16", "compress", "([CI[BII)I"⟩ : MethodName) = true := by first | exact plainFor_of_name (by first | (simp [plainName, overriddenIn]; done) | decide +kernel) | exact Jvm.Free.JP.mathPlain rfl (by decide +kernel)
theorem ef_cmp2 (m : MethodId) (x0 : Addr) (x1 : Int32) (x2 : Addr) (x3 : Int32) (x4 : Int32) : entryFrame m #[(.ref x0), (.int x1), (.ref x2), (.int x3), (.int x4)] 7 = mkF m 0 #[vR x0, vI x1, vR x2, vI x3, vI x4, .unset, .unset] [] := by first | (simp [entryFrame, mkF, argsToLocals, Value.category]; done) | rfl
def Q_cmp2 (Z : State) (ta tb : Addr) (ka kb : ClassId) (c0 c1 : Int32) (h0 : Heap) (n0 : Nat) (v : Option Value) (h : Heap) (L : List Loc) : Prop := ∃ r, v = some (.int r) ∧ Fr n0 L ∧ Keep h0 h [tb] ∧ ((r = (0 : Int32) ∧ (255 : Int32) < c0) ∨ (r = (1 : Int32) ∧ (255 : Int32) < c1))
set_option maxRecDepth 65536 in
set_option maxHeartbeats 40000000 in
theorem rm_cmp2 (l : Launch) (Z : State) (a0 : Array Value) (hw : ∀ d ∈ tables_1, d.before a0 Z = true) (ws : List Jvm.Cond) (ta tb : Addr) (ka kb : ClassId) (c0 c1 : Int32) (h0 : Heap) (n0 : Nat) (Z0 : n0 ≤ h0.size) (hthis : n0 ≤ tb) (ne : ta ≠ tb) (M : Arv Z h0 ta ka .char (2 : Int32) [(.int c0), (.int c1)] (.int 0)) (D : Arv Z h0 tb kb .byte (2 : Int32) [(.int (0 : Int32)), (.int (0 : Int32))] (.int 0)) (hbig : (255 : Int32) < c0 ∨ (255 : Int32) < c1) :
    MetFree l (⟨"java/lang/StringUTF16", "compress", "([CI[BII)I"⟩ : MethodName) (head1 (Jvm.Cond.code (⟨"java/lang/StringUTF16", "compress", "([CI[BII)I"⟩ : MethodName) jdk_52_method_21_code 7 (some .int) :: ws) ({ frames := 0, cells := 0, slots := 0, locals := 0 } : Room)) (fun a U => a = #[(.ref ta), (.int (0 : Int32)), (.ref tb), (.int (0 : Int32)), (.int (2 : Int32))] ∧ Z.Warmed39 U.vm ∧ U.heap = h0) (fun _ _ _ _ _ => True) (fun _ U o U' => ∃ v L, o = .returned v ∧ Q_cmp2 Z ta tb ka kb c0 c1 h0 n0 v U'.heap L ∧ FrameEnd U o U' L ({ frames := 0, cells := 0, slots := 0, locals := 0 } : Room).cells ({ frames := 0, cells := 0, slots := 0, locals := 0 } : Room).slots) := by
  refine MetFree.of_bodySF pn_cmp2 hisR ?_
  intro p e s m args below meth c s₁ Bd hml0 hP hK
  obtain ⟨rfl, hZ, hh⟩ := hP
  have hx := Bd.exec
  have hby := Bd.bytes
  have hml : c.maxLocals = 7 := hml0
  have hown : s.vm.findClass "java/lang/StringUTF16" = some m.cls := findClass_of_methodNamed Bd.named
  have hnm := (name_of_methodNamed Bd.named Bd.method).1
  have X0 : Stand p l e ({ frames := 0, cells := 0, slots := 0, locals := 0 } : Room) s m #[(.ref ta), (.int (0 : Int32)), (.ref tb), (.int (0 : Int32)), (.int (2 : Int32))] below meth c s₁ [] 0 0 := Stand.of_body Bd
  have e0 : s₁.heap = h0 := by rw [← hh, Bd.state]; rfl
  have N0 := Fr.nil n0
  show Rch p e below s₁ (entryFrame m #[(.ref ta), (.int (0 : Int32)), (.ref tb), (.int (0 : Int32)), (.int (2 : Int32))] 7) (fun U o => ∃ v L, o = .returned v ∧ Q_cmp2 Z ta tb ka kb c0 c1 h0 n0 v U.heap L ∧ FrameEnd s o U L ({ frames := 0, cells := 0, slots := 0, locals := 0 } : Room).cells ({ frames := 0, cells := 0, slots := 0, locals := 0 } : Room).slots)
  refine Rch.cast (ef_cmp2 m ta (0 : Int32) tb (0 : Int32) (2 : Int32)) ?_
  show Rch p e below s₁ (mkF m 0 #[vR ta, vI (0 : Int32), vR tb, vI (0 : Int32), vI (2 : Int32), .unset, .unset] []) _
  refine Rch.st (fun _ k => XS.iconst X0.here hx rfl (hb hby dc5_0)  k) ?_
  refine Rch.st (fun _ k => XS.istore X0.here hx rfl (hb hby dc5_1) rfl (l' := #[vR ta, vI (0 : Int32), vR tb, vI (0 : Int32), vI (2 : Int32), vI (0 : Int32), .unset]) rfl k) ?_
  show Rch p e below s₁ (mkF m 3 #[vR ta, vI (0 : Int32), vR tb, vI (0 : Int32), vI (2 : Int32), vI (0 : Int32), .unset] []) _
  refine Rch.st (fun _ k => XS.iload X0.here hx rfl (hb hby dc5_3) rfl k) ?_
  refine Rch.st (fun _ k => XS.iload X0.here hx rfl (hb hby dc5_5) rfl k) ?_
  show Rch p e below s₁ (mkF m 7 #[vR ta, vI (0 : Int32), vR tb, vI (0 : Int32), vI (2 : Int32), vI (0 : Int32), .unset] [(.int (2 : Int32)), (.int (0 : Int32))]) _
  refine Rch.st (fun _ k => XS.icmpNo X0.here hx rfl (hb hby dc5_7) rfl (by decide : if_icmp.holds .ge (0 : Int32) (2 : Int32) = false) k) ?_
  refine Rch.st (fun _ k => XS.aloadN X0.here hx rfl (hb hby dc5_10) rfl rfl k) ?_
  show Rch p e below s₁ (mkF m 11 #[vR ta, vI (0 : Int32), vR tb, vI (0 : Int32), vI (2 : Int32), vI (0 : Int32), .unset] [(.ref ta)]) _
  refine Rch.st (fun _ k => XS.iloadN X0.here hx rfl (hb hby dc5_11) rfl k) ?_
  show Rch p e below s₁ (mkF m 12 #[vR ta, vI (0 : Int32), vR tb, vI (0 : Int32), vI (2 : Int32), vI (0 : Int32), .unset] [(.int (0 : Int32)), (.ref ta)]) _
  refine Rch.st (calA X0 hx hZ e0 M ⟨by decide, by decide⟩ (v := (.int c0)) rfl (g := (mkF m 12 #[vR ta, vI (0 : Int32), vR tb, vI (0 : Int32), vI (2 : Int32), vI (0 : Int32), .unset] [(.int (0 : Int32)), (.ref ta)])) rfl rfl (hb hby dc5_12)) ?_
  show Rch p e below s₁ (mkF m 13 #[vR ta, vI (0 : Int32), vR tb, vI (0 : Int32), vI (2 : Int32), vI (0 : Int32), .unset] [(.int c0)]) _
  refine Rch.st (fun _ k => XS.istore X0.here hx rfl (hb hby dc5_13) rfl (l' := #[vR ta, vI (0 : Int32), vR tb, vI (0 : Int32), vI (2 : Int32), vI (0 : Int32), vI c0]) rfl k) ?_
  refine Rch.st (fun _ k => XS.iload X0.here hx rfl (hb hby dc5_15) rfl k) ?_
  show Rch p e below s₁ (mkF m 17 #[vR ta, vI (0 : Int32), vR tb, vI (0 : Int32), vI (2 : Int32), vI (0 : Int32), vI c0] [(.int c0)]) _
  refine Rch.st (fun _ k => XS.sipush X0.here hx rfl (hb hby dc5_17)  k) ?_
  show Rch p e below s₁ (mkF m 20 #[vR ta, vI (0 : Int32), vR tb, vI (0 : Int32), vI (2 : Int32), vI (0 : Int32), vI c0] [(.int (255 : Int32)), (.int c0)]) _
  by_cases hbd0 : (255 : Int32) < c0
  · skip
    refine Rch.st (fun _ k => XS.icmpNo X0.here hx rfl (hb hby dc5_20) rfl (tlt hbd0).2.2.2 k) ?_
    refine Rch.st (fun _ k => XS.iload X0.here hx rfl (hb hby dc5_23) rfl k) ?_
    show Rch p e below s₁ (mkF m 25 #[vR ta, vI (0 : Int32), vR tb, vI (0 : Int32), vI (2 : Int32), vI (0 : Int32), vI c0] [(.int (0 : Int32))]) _
    exact Rch.fin (Q := Q_cmp2 Z ta tb ka kb c0 c1 h0 n0) X0 (v := some (.int (0 : Int32))) (fun h => by rw [Bd.returns] at h; cases h) (BodyLoose.notSynchronized Bd) (fun fs hr => retI X0 hx Bd.returns (hb hby dc5_25) hr) (by rw [e0]; exact ⟨(0 : Int32), rfl, N0, (Keep.refl _ _), Or.inl ⟨rfl, hbd0⟩⟩) (by decide) (by decide)
  · skip
    refine Rch.st (fun _ k => XS.icmpYes X0.here hx rfl (pc0 := 20) (pc' := 26) rfl (hb hby dc5_20) rfl (flt hbd0).2.2.2 (by decide) (by decide) k) ?_
    refine Rch.st (fun _ k => XS.aloadN X0.here hx rfl (hb hby dc5_26) rfl rfl k) ?_
    show Rch p e below s₁ (mkF m 27 #[vR ta, vI (0 : Int32), vR tb, vI (0 : Int32), vI (2 : Int32), vI (0 : Int32), vI c0] [(.ref tb)]) _
    refine Rch.st (fun _ k => XS.iloadN X0.here hx rfl (hb hby dc5_27) rfl k) ?_
    refine Rch.st (fun _ k => XS.iload X0.here hx rfl (hb hby dc5_28) rfl k) ?_
    show Rch p e below s₁ (mkF m 30 #[vR ta, vI (0 : Int32), vR tb, vI (0 : Int32), vI (2 : Int32), vI (0 : Int32), vI c0] [(.int c0), (.int (0 : Int32)), (.ref tb)]) _
    refine Rch.st (fun _ k => XT.i2b X0.here hx rfl (hb hby dc5_30) rfl k) ?_
    show Rch p e below s₁ (mkF m 31 #[vR ta, vI (0 : Int32), vR tb, vI (0 : Int32), vI (2 : Int32), vI (0 : Int32), vI c0] [(.int (c0.toInt8.toInt32)), (.int (0 : Int32)), (.ref tb)]) _
    obtain ⟨T60, h60, L60, sl60, X60, e60, W60, V60, N60, st60⟩ := stBv X0 hx hZ e0 D N0 hthis (j := (0 : Int32)) ⟨by decide, by decide⟩ 0 rfl (Nat.le_of_ble_eq_true rfl) (g := (mkF m 31 #[vR ta, vI (0 : Int32), vR tb, vI (0 : Int32), vI (2 : Int32), vI (0 : Int32), vI c0] [(.int (c0.toInt8.toInt32)), (.int (0 : Int32)), (.ref tb)])) rfl rfl (hb hby dc5_31)
    have D60 : Arv Z h60 tb kb .byte (2 : Int32) [(.int (nar .byte c0.toInt8.toInt32)), (.int (0 : Int32))] (.int 0) := V60
    have M60 := (M).other W60 ne
    have K60 : Keep h0 h60 [tb] := (Keep.refl _ _).wr W60 (Or.inl (List.mem_singleton.mpr rfl))
    refine Rch.st st60 ?_
    show Rch p e below T60 (mkF m 32 #[vR ta, vI (0 : Int32), vR tb, vI (0 : Int32), vI (2 : Int32), vI (0 : Int32), vI c0] []) _
    refine Rch.st (fun _ k => XS.iinc X60.here hx rfl (hb hby dc5_32) rfl (l' := #[vR ta, vI (1 : Int32), vR tb, vI (0 : Int32), vI (2 : Int32), vI (0 : Int32), vI c0]) rfl k) ?_
    refine Rch.st (fun _ k => XS.iinc X60.here hx rfl (hb hby dc5_35) rfl (l' := #[vR ta, vI (1 : Int32), vR tb, vI (1 : Int32), vI (2 : Int32), vI (0 : Int32), vI c0]) rfl k) ?_
    show Rch p e below T60 (mkF m 38 #[vR ta, vI (1 : Int32), vR tb, vI (1 : Int32), vI (2 : Int32), vI (0 : Int32), vI c0] []) _
    refine Rch.st (fun _ k => XS.iinc X60.here hx rfl (hb hby dc5_38) rfl (l' := #[vR ta, vI (1 : Int32), vR tb, vI (1 : Int32), vI (2 : Int32), vI (1 : Int32), vI c0]) rfl k) ?_
    refine Rch.st (fun _ k => XS.goto X60.here hx rfl (pc0 := 41) (pc' := 3) rfl (hb hby dc5_41) (by decide) (by decide) k) ?_
    show Rch p e below T60 (mkF m 3 #[vR ta, vI (1 : Int32), vR tb, vI (1 : Int32), vI (2 : Int32), vI (1 : Int32), vI c0] []) _
    refine Rch.st (fun _ k => XS.iload X60.here hx rfl (hb hby dc5_3) rfl k) ?_
    refine Rch.st (fun _ k => XS.iload X60.here hx rfl (hb hby dc5_5) rfl k) ?_
    show Rch p e below T60 (mkF m 7 #[vR ta, vI (1 : Int32), vR tb, vI (1 : Int32), vI (2 : Int32), vI (1 : Int32), vI c0] [(.int (2 : Int32)), (.int (1 : Int32))]) _
    refine Rch.st (fun _ k => XS.icmpNo X60.here hx rfl (hb hby dc5_7) rfl (by decide : if_icmp.holds .ge (1 : Int32) (2 : Int32) = false) k) ?_
    refine Rch.st (fun _ k => XS.aloadN X60.here hx rfl (hb hby dc5_10) rfl rfl k) ?_
    show Rch p e below T60 (mkF m 11 #[vR ta, vI (1 : Int32), vR tb, vI (1 : Int32), vI (2 : Int32), vI (1 : Int32), vI c0] [(.ref ta)]) _
    refine Rch.st (fun _ k => XS.iloadN X60.here hx rfl (hb hby dc5_11) rfl k) ?_
    show Rch p e below T60 (mkF m 12 #[vR ta, vI (1 : Int32), vR tb, vI (1 : Int32), vI (2 : Int32), vI (1 : Int32), vI c0] [(.int (1 : Int32)), (.ref ta)]) _
    refine Rch.st (calA X60 hx hZ e60 M60 ⟨by decide, by decide⟩ (v := (.int c1)) rfl (g := (mkF m 12 #[vR ta, vI (1 : Int32), vR tb, vI (1 : Int32), vI (2 : Int32), vI (1 : Int32), vI c0] [(.int (1 : Int32)), (.ref ta)])) rfl rfl (hb hby dc5_12)) ?_
    show Rch p e below T60 (mkF m 13 #[vR ta, vI (1 : Int32), vR tb, vI (1 : Int32), vI (2 : Int32), vI (1 : Int32), vI c0] [(.int c1)]) _
    refine Rch.st (fun _ k => XS.istore X60.here hx rfl (hb hby dc5_13) rfl (l' := #[vR ta, vI (1 : Int32), vR tb, vI (1 : Int32), vI (2 : Int32), vI (1 : Int32), vI c1]) rfl k) ?_
    refine Rch.st (fun _ k => XS.iload X60.here hx rfl (hb hby dc5_15) rfl k) ?_
    show Rch p e below T60 (mkF m 17 #[vR ta, vI (1 : Int32), vR tb, vI (1 : Int32), vI (2 : Int32), vI (1 : Int32), vI c1] [(.int c1)]) _
    refine Rch.st (fun _ k => XS.sipush X60.here hx rfl (hb hby dc5_17)  k) ?_
    show Rch p e below T60 (mkF m 20 #[vR ta, vI (1 : Int32), vR tb, vI (1 : Int32), vI (2 : Int32), vI (1 : Int32), vI c1] [(.int (255 : Int32)), (.int c1)]) _
    by_cases hbd1 : (255 : Int32) < c1
    · skip
      refine Rch.st (fun _ k => XS.icmpNo X60.here hx rfl (hb hby dc5_20) rfl (tlt hbd1).2.2.2 k) ?_
      refine Rch.st (fun _ k => XS.iload X60.here hx rfl (hb hby dc5_23) rfl k) ?_
      show Rch p e below T60 (mkF m 25 #[vR ta, vI (1 : Int32), vR tb, vI (1 : Int32), vI (2 : Int32), vI (1 : Int32), vI c1] [(.int (1 : Int32))]) _
      exact Rch.fin (Q := Q_cmp2 Z ta tb ka kb c0 c1 h0 n0) X60 (v := some (.int (1 : Int32))) (fun h => by rw [Bd.returns] at h; cases h) (BodyLoose.notSynchronized Bd) (fun fs hr => retI X60 hx Bd.returns (hb hby dc5_25) hr) (by rw [e60]; exact ⟨(1 : Int32), rfl, N60, K60, Or.inr (⟨rfl, hbd1⟩)⟩) (by decide) (by decide)
    · skip
      refine Rch.st (fun _ k => XS.icmpYes X60.here hx rfl (pc0 := 20) (pc' := 26) rfl (hb hby dc5_20) rfl (flt hbd1).2.2.2 (by decide) (by decide) k) ?_
      refine Rch.st (fun _ k => XS.aloadN X60.here hx rfl (hb hby dc5_26) rfl rfl k) ?_
      show Rch p e below T60 (mkF m 27 #[vR ta, vI (1 : Int32), vR tb, vI (1 : Int32), vI (2 : Int32), vI (1 : Int32), vI c1] [(.ref tb)]) _
      refine Rch.st (fun _ k => XS.iloadN X60.here hx rfl (hb hby dc5_27) rfl k) ?_
      refine Rch.st (fun _ k => XS.iload X60.here hx rfl (hb hby dc5_28) rfl k) ?_
      show Rch p e below T60 (mkF m 30 #[vR ta, vI (1 : Int32), vR tb, vI (1 : Int32), vI (2 : Int32), vI (1 : Int32), vI c1] [(.int c1), (.int (1 : Int32)), (.ref tb)]) _
      refine Rch.st (fun _ k => XT.i2b X60.here hx rfl (hb hby dc5_30) rfl k) ?_
      show Rch p e below T60 (mkF m 31 #[vR ta, vI (1 : Int32), vR tb, vI (1 : Int32), vI (2 : Int32), vI (1 : Int32), vI c1] [(.int (c1.toInt8.toInt32)), (.int (1 : Int32)), (.ref tb)]) _
      obtain ⟨T61, h61, L61, sl61, X61, e61, W61, V61, N61, st61⟩ := stBv X60 hx hZ e60 D60 N60 hthis (j := (1 : Int32)) ⟨by decide, by decide⟩ 1 rfl (Nat.le_of_ble_eq_true rfl) (g := (mkF m 31 #[vR ta, vI (1 : Int32), vR tb, vI (1 : Int32), vI (2 : Int32), vI (1 : Int32), vI c1] [(.int (c1.toInt8.toInt32)), (.int (1 : Int32)), (.ref tb)])) rfl rfl (hb hby dc5_31)
      have D61 : Arv Z h61 tb kb .byte (2 : Int32) [(.int (nar .byte c0.toInt8.toInt32)), (.int (nar .byte c1.toInt8.toInt32))] (.int 0) := V61
      have M61 := (M60).other W61 ne
      have K61 : Keep h0 h61 [tb] := K60.wr W61 (Or.inl (List.mem_singleton.mpr rfl))
      refine Rch.st st61 ?_
      show Rch p e below T61 (mkF m 32 #[vR ta, vI (1 : Int32), vR tb, vI (1 : Int32), vI (2 : Int32), vI (1 : Int32), vI c1] []) _
      refine Rch.st (fun _ k => XS.iinc X61.here hx rfl (hb hby dc5_32) rfl (l' := #[vR ta, vI (2 : Int32), vR tb, vI (1 : Int32), vI (2 : Int32), vI (1 : Int32), vI c1]) rfl k) ?_
      refine Rch.st (fun _ k => XS.iinc X61.here hx rfl (hb hby dc5_35) rfl (l' := #[vR ta, vI (2 : Int32), vR tb, vI (2 : Int32), vI (2 : Int32), vI (1 : Int32), vI c1]) rfl k) ?_
      show Rch p e below T61 (mkF m 38 #[vR ta, vI (2 : Int32), vR tb, vI (2 : Int32), vI (2 : Int32), vI (1 : Int32), vI c1] []) _
      refine Rch.st (fun _ k => XS.iinc X61.here hx rfl (hb hby dc5_38) rfl (l' := #[vR ta, vI (2 : Int32), vR tb, vI (2 : Int32), vI (2 : Int32), vI (2 : Int32), vI c1]) rfl k) ?_
      refine Rch.st (fun _ k => XS.goto X61.here hx rfl (pc0 := 41) (pc' := 3) rfl (hb hby dc5_41) (by decide) (by decide) k) ?_
      show Rch p e below T61 (mkF m 3 #[vR ta, vI (2 : Int32), vR tb, vI (2 : Int32), vI (2 : Int32), vI (2 : Int32), vI c1] []) _
      refine Rch.st (fun _ k => XS.iload X61.here hx rfl (hb hby dc5_3) rfl k) ?_
      refine Rch.st (fun _ k => XS.iload X61.here hx rfl (hb hby dc5_5) rfl k) ?_
      show Rch p e below T61 (mkF m 7 #[vR ta, vI (2 : Int32), vR tb, vI (2 : Int32), vI (2 : Int32), vI (2 : Int32), vI c1] [(.int (2 : Int32)), (.int (2 : Int32))]) _
      exfalso
      rcases hbig with q | q
      · exact hbd0 q
      · exact hbd1 q
theorem pn_nbf3 : plainFor (⟨"java/lang/StringUTF16", "newBytesFor", "(I)[B"⟩ : MethodName) = true := by first | exact plainFor_of_name (by first | (simp [plainName, overriddenIn]; done) | decide +kernel) | exact Jvm.Free.JP.mathPlain rfl (by decide +kernel)
theorem ef_nbf3 (m : MethodId) (x0 : Int32) : entryFrame m #[(.int x0)] 1 = mkF m 0 #[vI x0] [] := by first | (simp [entryFrame, mkF, argsToLocals, Value.category]; done) | rfl
def Q_nbf3 (Z : State)  (h0 : Heap) (n0 : Nat) (v : Option Value) (h : Heap) (L : List Loc) : Prop := ∃ b k, v = some (.ref b) ∧ Fr n0 L ∧ Ext h0 h ∧ h0.size ≤ b ∧ Arv Z h b k .byte (6 : Int32) [(.int (0 : Int32)), (.int (0 : Int32)), (.int (0 : Int32)), (.int (0 : Int32)), (.int (0 : Int32)), (.int (0 : Int32))] (.int 0)
set_option maxRecDepth 65536 in
set_option maxHeartbeats 40000000 in
theorem rm_nbf3 (l : Launch) (Z : State) (a0 : Array Value) (hw : ∀ d ∈ tables_1, d.before a0 Z = true) (ws : List Jvm.Cond) (h0 : Heap) (n0 : Nat) (Z0 : n0 ≤ h0.size) :
    MetFree l (⟨"java/lang/StringUTF16", "newBytesFor", "(I)[B"⟩ : MethodName) (head1 (Jvm.Cond.code (⟨"java/lang/StringUTF16", "newBytesFor", "(I)[B"⟩ : MethodName) jdk_52_method_2_code 1 (some (.array .byte)) :: ws) ({ frames := 1, cells := 1, slots := 6, locals := 12 } : Room)) (fun a U => a = #[(.int (3 : Int32))] ∧ Z.Warmed39 U.vm ∧ U.heap = h0) (fun _ _ _ _ _ => True) (fun _ U o U' => ∃ v L, o = .returned v ∧ Q_nbf3 Z  h0 n0 v U'.heap L ∧ FrameEnd U o U' L ({ frames := 1, cells := 1, slots := 6, locals := 12 } : Room).cells ({ frames := 1, cells := 1, slots := 6, locals := 12 } : Room).slots) := by
  refine MetFree.of_bodySF pn_nbf3 hisR ?_
  intro p e s m args below meth c s₁ Bd hml0 hP hK
  obtain ⟨rfl, hZ, hh⟩ := hP
  have hx := Bd.exec
  have hby := Bd.bytes
  have hml : c.maxLocals = 1 := hml0
  have hown : s.vm.findClass "java/lang/StringUTF16" = some m.cls := findClass_of_methodNamed Bd.named
  have hnm := (name_of_methodNamed Bd.named Bd.method).1
  have X0 : Stand p l e ({ frames := 1, cells := 1, slots := 6, locals := 12 } : Room) s m #[(.int (3 : Int32))] below meth c s₁ [] 0 0 := Stand.of_body Bd
  have e0 : s₁.heap = h0 := by rw [← hh, Bd.state]; rfl
  have N0 := Fr.nil n0
  show Rch p e below s₁ (entryFrame m #[(.int (3 : Int32))] 1) (fun U o => ∃ v L, o = .returned v ∧ Q_nbf3 Z  h0 n0 v U.heap L ∧ FrameEnd s o U L ({ frames := 1, cells := 1, slots := 6, locals := 12 } : Room).cells ({ frames := 1, cells := 1, slots := 6, locals := 12 } : Room).slots)
  refine Rch.cast (ef_nbf3 m (3 : Int32)) ?_
  show Rch p e below s₁ (mkF m 0 #[vI (3 : Int32)] []) _
  refine Rch.st (fun _ k => XS.iloadN X0.here hx rfl (hb hby dnf_0) rfl k) ?_
  show Rch p e below s₁ (mkF m 1 #[vI (3 : Int32)] [(.int (3 : Int32))]) _
  obtain ⟨_, _, ⟨T75, L75, k75, n75⟩, -, X75, ⟨Lc75, hQ75, l75, y75, z75⟩, st75⟩ := Jvm.LawKit.callS X0 hx (y := (⟨"java/lang/StringUTF16", "newBytesLength", "(I)I"⟩ : MethodName)) hown (mvT hZ (wq hw 112 rfl)) (mvT hZ (wq hw 113 rfl)) (mvT hZ (wq hw 38 rfl)) (mvT hZ (wq hw 114 rfl)) (by decide) (backOf (W := 0) (rm_nbl l Z a0 hw [] (3 : Int32) h0 n0 Z0 (by decide) (by decide)) hZ (wq hw 114 rfl) (wq hw 38 rfl) (by decide) (by decide)) (g := (mkF m 1 #[vI (3 : Int32)] [(.int (3 : Int32))])) rfl (by rw [hml]; rfl) (argsL := [(.int (3 : Int32))]) (rest := []) (lenOf pd_7 rfl) rfl (by show 2 * 0 + _ ≤ _; exact Nat.le_of_eq rfl) (hb hby dnf_1) (fun _ _ => ⟨rfl, e0, (by decide : 0 + 0 ≤ _), (by decide : 0 + 0 ≤ _)⟩)
  dsimp only [Pt.U, Pt.locs, Pt.cells, Pt.slots] at X75 l75 y75 z75 st75 hQ75
  subst l75 y75 z75
  obtain ⟨rfl, Nq75, e75⟩ := hQ75
  have N75 := Fr.app N0 Nq75
  refine Rch.st st75 ?_
  show Rch p e below T75 (mkF m 4 #[vI (3 : Int32)] [(.int (6 : Int32))]) _
  obtain ⟨T76, h76, k76, X76, e76, E76, A76, st76⟩ := newP X75 hx hZ (wq hw 15 rfl) e75 (g := (mkF m 4 #[vI (3 : Int32)] [(.int (6 : Int32))])) rfl (hb hby dnf_4) rfl (by decide : ¬ ((6 : Int32) < (0 : Int32))) (cap := 6) (by decide : ((6 : Int32)).toNatClampNeg ≤ 6) (by decide) (by decide) (by decide)
  obtain ⟨a76, g76⟩ : ∃ z, z = h0.size := ⟨_, rfl⟩
  rw [← g76] at A76 st76
  have Ex77 : Ext h0 h76 := E76
  have le78 : h0.size ≤ a76 := Nat.le_of_eq g76.symm
  refine Rch.st st76 ?_
  show Rch p e below T76 (mkF m 6 #[vI (3 : Int32)] [(.ref a76)]) _
  have V76 : Arv Z h76 a76 k76 .byte (6 : Int32) [(.int (0 : Int32)), (.int (0 : Int32)), (.int (0 : Int32)), (.int (0 : Int32)), (.int (0 : Int32)), (.int (0 : Int32))] (.int (0 : Int32)) := (Arv.new A76 (by decide : ¬ ((6 : Int32) < (0 : Int32)))).pad (pad_rep [] (.int (0 : Int32)) 6)
  exact Rch.fin (Q := Q_nbf3 Z  h0 n0) X76 (v := some (.ref a76)) (fun h => by rw [Bd.returns] at h; cases h) (BodyLoose.notSynchronized Bd) (fun fs hr => retR X76 hx Bd.returns rfl rfl (hb hby dnf_6) hr) (by rw [e76]; exact ⟨a76, k76, rfl, N75, Ex77, le78, V76⟩) (by decide) (by decide)
theorem pn_toby3 : plainFor (⟨"java/lang/StringUTF16", "toBytes", "([CII)[B"⟩ : MethodName) = true := by first | exact plainFor_of_name (by first | (simp [plainName, overriddenIn]; done) | decide +kernel) | exact Jvm.Free.JP.mathPlain rfl (by decide +kernel)
theorem ef_toby3 (m : MethodId) (x0 : Addr) (x1 : Int32) (x2 : Int32) : entryFrame m #[(.ref x0), (.int x1), (.int x2)] 5 = mkF m 0 #[vR x0, vI x1, vI x2, .unset, .unset] [] := by first | (simp [entryFrame, mkF, argsToLocals, Value.category]; done) | rfl
def Q_toby3 (Z : State) (ta : Addr) (ka : ClassId) (c0 c1 c2 : Int32) (fm : Value) (h0 : Heap) (n0 : Nat) (v : Option Value) (h : Heap) (L : List Loc) : Prop := ∃ b k, v = some (.ref b) ∧ Fr n0 L ∧ Ext h0 h ∧ h0.size ≤ b ∧ Arv Z h b k .byte (6 : Int32) (StrChars.Road.wideBytes [c0, c1, c2]) (.int 0)
set_option maxRecDepth 65536 in
set_option maxHeartbeats 40000000 in
theorem rm_toby3 (l : Launch) (Z : State) (a0 : Array Value) (hw : ∀ d ∈ tables_1, d.before a0 Z = true) (ws : List Jvm.Cond) (ta : Addr) (ka : ClassId) (c0 c1 c2 : Int32) (fm : Value) (h0 : Heap) (n0 : Nat) (Z0 : n0 ≤ h0.size) (B : Bg Z h0 fm) (M : Arv Z h0 ta ka .char (3 : Int32) [(.int c0), (.int c1), (.int c2)] (.int 0)) :
    MetFree l (⟨"java/lang/StringUTF16", "toBytes", "([CII)[B"⟩ : MethodName) (head1 (Jvm.Cond.code (⟨"java/lang/StringUTF16", "toBytes", "([CII)[B"⟩ : MethodName) jdk_52_method_14_code 5 (some (.array .byte)) :: ws) ({ frames := 2, cells := 1, slots := 6, locals := 24 } : Room)) (fun a U => a = #[(.ref ta), (.int (0 : Int32)), (.int (3 : Int32))] ∧ Z.Warmed39 U.vm ∧ U.heap = h0) (fun _ _ _ _ _ => True) (fun _ U o U' => ∃ v L, o = .returned v ∧ Q_toby3 Z ta ka c0 c1 c2 fm h0 n0 v U'.heap L ∧ FrameEnd U o U' L ({ frames := 2, cells := 1, slots := 6, locals := 24 } : Room).cells ({ frames := 2, cells := 1, slots := 6, locals := 24 } : Room).slots) := by
  refine MetFree.of_bodySF pn_toby3 hisR ?_
  intro p e s m args below meth c s₁ Bd hml0 hP hK
  obtain ⟨rfl, hZ, hh⟩ := hP
  have hx := Bd.exec
  have hby := Bd.bytes
  have hml : c.maxLocals = 5 := hml0
  have hown : s.vm.findClass "java/lang/StringUTF16" = some m.cls := findClass_of_methodNamed Bd.named
  have hnm := (name_of_methodNamed Bd.named Bd.method).1
  have X0 : Stand p l e ({ frames := 2, cells := 1, slots := 6, locals := 24 } : Room) s m #[(.ref ta), (.int (0 : Int32)), (.int (3 : Int32))] below meth c s₁ [] 0 0 := Stand.of_body Bd
  have e0 : s₁.heap = h0 := by rw [← hh, Bd.state]; rfl
  have N0 := Fr.nil n0
  show Rch p e below s₁ (entryFrame m #[(.ref ta), (.int (0 : Int32)), (.int (3 : Int32))] 5) (fun U o => ∃ v L, o = .returned v ∧ Q_toby3 Z ta ka c0 c1 c2 fm h0 n0 v U.heap L ∧ FrameEnd s o U L ({ frames := 2, cells := 1, slots := 6, locals := 24 } : Room).cells ({ frames := 2, cells := 1, slots := 6, locals := 24 } : Room).slots)
  refine Rch.cast (ef_toby3 m ta (0 : Int32) (3 : Int32)) ?_
  show Rch p e below s₁ (mkF m 0 #[vR ta, vI (0 : Int32), vI (3 : Int32), .unset, .unset] []) _
  refine Rch.st (fun _ k => XS.iloadN X0.here hx rfl (hb hby dto_0) rfl k) ?_
  show Rch p e below s₁ (mkF m 1 #[vR ta, vI (0 : Int32), vI (3 : Int32), .unset, .unset] [(.int (3 : Int32))]) _
  obtain ⟨_, _, ⟨T79, L79, k79, n79⟩, -, X79, ⟨Lc79, hQ79, l79, y79, z79⟩, st79⟩ := Jvm.LawKit.callS X0 hx (y := (⟨"java/lang/StringUTF16", "newBytesFor", "(I)[B"⟩ : MethodName)) hown (mvT hZ (wq hw 109 rfl)) (mvT hZ (wq hw 110 rfl)) (mvT hZ (wq hw 38 rfl)) (mvT hZ (wq hw 111 rfl)) (by decide) (backOf (W := 0) (rm_nbf3 l Z a0 hw [] h0 n0 Z0) hZ (wq hw 111 rfl) (wq hw 38 rfl) (by decide) (by decide)) (g := (mkF m 1 #[vR ta, vI (0 : Int32), vI (3 : Int32), .unset, .unset] [(.int (3 : Int32))])) rfl (by rw [hml]; rfl) (argsL := [(.int (3 : Int32))]) (rest := []) (lenOf pd_8 rfl) rfl (by show 2 * 0 + _ ≤ _; exact Nat.le_of_eq rfl) (hb hby dto_1) (fun _ _ => ⟨rfl, e0, (by decide : 0 + 1 ≤ _), (by decide : 0 + 6 ≤ _)⟩)
  dsimp only [Pt.U, Pt.locs, Pt.cells, Pt.slots] at X79 l79 y79 z79 st79 hQ79
  subst l79 y79 z79
  obtain ⟨b79, kb79, rfl, Nq79, E79, le79_, V79⟩ := hQ79
  have N79 := Fr.app N0 Nq79
  have Ex80 : Ext h0 T79.heap := E79
  refine Rch.st st79 ?_
  show Rch p e below T79 (mkF m 4 #[vR ta, vI (0 : Int32), vI (3 : Int32), .unset, .unset] [(.ref b79)]) _
  have leb : n0 ≤ b79 := Nat.le_trans Z0 le79_
  refine Rch.st (fun _ k => XS.astoreN X79.here hx rfl (hb hby dto_4) rfl rfl (l' := #[vR ta, vI (0 : Int32), vI (3 : Int32), vR b79, .unset]) rfl k) ?_
  refine Rch.st (fun _ k => XS.iconst X79.here hx rfl (hb hby dto_5)  k) ?_
  show Rch p e below T79 (mkF m 6 #[vR ta, vI (0 : Int32), vI (3 : Int32), vR b79, .unset] [(.int (0 : Int32))]) _
  refine Rch.st (fun _ k => XS.istore X79.here hx rfl (hb hby dto_6) rfl (l' := #[vR ta, vI (0 : Int32), vI (3 : Int32), vR b79, vI (0 : Int32)]) rfl k) ?_
  refine Rch.st (fun _ k => XS.iload X79.here hx rfl (hb hby dto_8) rfl k) ?_
  show Rch p e below T79 (mkF m 10 #[vR ta, vI (0 : Int32), vI (3 : Int32), vR b79, vI (0 : Int32)] [(.int (0 : Int32))]) _
  refine Rch.st (fun _ k => XS.iloadN X79.here hx rfl (hb hby dto_10) rfl k) ?_
  refine Rch.st (fun _ k => XS.icmpNo X79.here hx rfl (hb hby dto_11) rfl (by decide : if_icmp.holds .ge (0 : Int32) (3 : Int32) = false) k) ?_
  show Rch p e below T79 (mkF m 14 #[vR ta, vI (0 : Int32), vI (3 : Int32), vR b79, vI (0 : Int32)] []) _
  refine Rch.st (fun _ k => XS.aloadN X79.here hx rfl (hb hby dto_14) rfl rfl k) ?_
  refine Rch.st (fun _ k => XS.iload X79.here hx rfl (hb hby dto_15) rfl k) ?_
  show Rch p e below T79 (mkF m 17 #[vR ta, vI (0 : Int32), vI (3 : Int32), vR b79, vI (0 : Int32)] [(.int (0 : Int32)), (.ref b79)]) _
  refine Rch.st (fun _ k => XS.aloadN X79.here hx rfl (hb hby dto_17) rfl rfl k) ?_
  refine Rch.st (fun _ k => XS.iloadN X79.here hx rfl (hb hby dto_18) rfl k) ?_
  show Rch p e below T79 (mkF m 19 #[vR ta, vI (0 : Int32), vI (3 : Int32), vR b79, vI (0 : Int32)] [(.int (0 : Int32)), (.ref ta), (.int (0 : Int32)), (.ref b79)]) _
  refine Rch.st (calA X79 hx hZ rfl (M.ext Ex80) ⟨by decide, by decide⟩ (v := (.int c0)) rfl (g := (mkF m 19 #[vR ta, vI (0 : Int32), vI (3 : Int32), vR b79, vI (0 : Int32)] [(.int (0 : Int32)), (.ref ta), (.int (0 : Int32)), (.ref b79)])) rfl rfl (hb hby dto_19)) ?_
  show Rch p e below T79 (mkF m 20 #[vR ta, vI (0 : Int32), vI (3 : Int32), vR b79, vI (0 : Int32)] [(.int c0), (.int (0 : Int32)), (.ref b79)]) _
  obtain ⟨_, _, ⟨T81, L81, k81, n81⟩, -, X81, ⟨Lc81, hQ81, l81, y81, z81⟩, st81⟩ := Jvm.LawKit.callS X79 hx (y := (⟨"java/lang/StringUTF16", "putChar", "([BII)V"⟩ : MethodName)) hown (mvT hZ (wq hw 116 rfl)) (mvT hZ (wq hw 117 rfl)) (mvT hZ (wq hw 38 rfl)) (mvT hZ (wq hw 118 rfl)) (by decide) (backOf (W := 0) (rm_put l Z a0 hw [] b79 kb79 [(.int (0 : Int32)), (.int (0 : Int32)), (.int (0 : Int32)), (.int (0 : Int32)), (.int (0 : Int32)), (.int (0 : Int32))] 0 c0 fm T79.heap n0 (Nat.le_trans Z0 Ex80.1) (B.ext Ex80) leb V79 (by first | decide | exact Nat.le_of_ble_eq_true rfl) (by first | decide | exact Nat.le_of_ble_eq_true rfl | rfl)) hZ (wq hw 118 rfl) (wq hw 38 rfl) (by decide) (by decide)) (g := (mkF m 20 #[vR ta, vI (0 : Int32), vI (3 : Int32), vR b79, vI (0 : Int32)] [(.int c0), (.int (0 : Int32)), (.ref b79)])) rfl (by rw [hml]; rfl) (argsL := [(.ref b79), (.int (0 : Int32)), (.int c0)]) (rest := []) (lenOf pd_9 rfl) rfl (by show 2 * 0 + _ ≤ _; exact Nat.le_of_eq rfl) (hb hby dto_20) (fun _ _ => ⟨rfl, rfl, (by decide : 1 + 0 ≤ _), (by decide : 6 + 0 ≤ _)⟩)
  dsimp only [Pt.U, Pt.locs, Pt.cells, Pt.slots] at X81 l81 y81 z81 st81 hQ81
  subst l81 y81 z81
  obtain ⟨rfl, Nq81, K81, V81⟩ := hQ81
  have N81 := Fr.app N79 Nq81
  have Ex82 : Ext h0 T81.heap := extKeep1 Ex80 K81 le79_
  refine Rch.st st81 ?_
  show Rch p e below T81 (mkF m 23 #[vR ta, vI (0 : Int32), vI (3 : Int32), vR b79, vI (0 : Int32)] []) _
  refine Rch.st (fun _ k => XS.iinc X81.here hx rfl (hb hby dto_23) rfl (l' := #[vR ta, vI (1 : Int32), vI (3 : Int32), vR b79, vI (0 : Int32)]) rfl k) ?_
  refine Rch.st (fun _ k => XS.iinc X81.here hx rfl (hb hby dto_26) rfl (l' := #[vR ta, vI (1 : Int32), vI (3 : Int32), vR b79, vI (1 : Int32)]) rfl k) ?_
  show Rch p e below T81 (mkF m 29 #[vR ta, vI (1 : Int32), vI (3 : Int32), vR b79, vI (1 : Int32)] []) _
  refine Rch.st (fun _ k => XS.goto X81.here hx rfl (pc0 := 29) (pc' := 8) rfl (hb hby dto_29) (by decide) (by decide) k) ?_
  refine Rch.st (fun _ k => XS.iload X81.here hx rfl (hb hby dto_8) rfl k) ?_
  show Rch p e below T81 (mkF m 10 #[vR ta, vI (1 : Int32), vI (3 : Int32), vR b79, vI (1 : Int32)] [(.int (1 : Int32))]) _
  refine Rch.st (fun _ k => XS.iloadN X81.here hx rfl (hb hby dto_10) rfl k) ?_
  refine Rch.st (fun _ k => XS.icmpNo X81.here hx rfl (hb hby dto_11) rfl (by decide : if_icmp.holds .ge (1 : Int32) (3 : Int32) = false) k) ?_
  show Rch p e below T81 (mkF m 14 #[vR ta, vI (1 : Int32), vI (3 : Int32), vR b79, vI (1 : Int32)] []) _
  refine Rch.st (fun _ k => XS.aloadN X81.here hx rfl (hb hby dto_14) rfl rfl k) ?_
  refine Rch.st (fun _ k => XS.iload X81.here hx rfl (hb hby dto_15) rfl k) ?_
  show Rch p e below T81 (mkF m 17 #[vR ta, vI (1 : Int32), vI (3 : Int32), vR b79, vI (1 : Int32)] [(.int (1 : Int32)), (.ref b79)]) _
  refine Rch.st (fun _ k => XS.aloadN X81.here hx rfl (hb hby dto_17) rfl rfl k) ?_
  refine Rch.st (fun _ k => XS.iloadN X81.here hx rfl (hb hby dto_18) rfl k) ?_
  show Rch p e below T81 (mkF m 19 #[vR ta, vI (1 : Int32), vI (3 : Int32), vR b79, vI (1 : Int32)] [(.int (1 : Int32)), (.ref ta), (.int (1 : Int32)), (.ref b79)]) _
  refine Rch.st (calA X81 hx hZ rfl (M.ext Ex82) ⟨by decide, by decide⟩ (v := (.int c1)) rfl (g := (mkF m 19 #[vR ta, vI (1 : Int32), vI (3 : Int32), vR b79, vI (1 : Int32)] [(.int (1 : Int32)), (.ref ta), (.int (1 : Int32)), (.ref b79)])) rfl rfl (hb hby dto_19)) ?_
  show Rch p e below T81 (mkF m 20 #[vR ta, vI (1 : Int32), vI (3 : Int32), vR b79, vI (1 : Int32)] [(.int c1), (.int (1 : Int32)), (.ref b79)]) _
  obtain ⟨_, _, ⟨T83, L83, k83, n83⟩, -, X83, ⟨Lc83, hQ83, l83, y83, z83⟩, st83⟩ := Jvm.LawKit.callS X81 hx (y := (⟨"java/lang/StringUTF16", "putChar", "([BII)V"⟩ : MethodName)) hown (mvT hZ (wq hw 116 rfl)) (mvT hZ (wq hw 117 rfl)) (mvT hZ (wq hw 38 rfl)) (mvT hZ (wq hw 118 rfl)) (by decide) (backOf (W := 0) (rm_put l Z a0 hw [] b79 kb79 [(.int (StrChars.lo8 c0)), (.int (StrChars.hi8 c0)), (.int (0 : Int32)), (.int (0 : Int32)), (.int (0 : Int32)), (.int (0 : Int32))] 1 c1 fm T81.heap n0 (Nat.le_trans Z0 Ex82.1) (B.ext Ex82) leb V81 (by first | decide | exact Nat.le_of_ble_eq_true rfl) (by first | decide | exact Nat.le_of_ble_eq_true rfl | rfl)) hZ (wq hw 118 rfl) (wq hw 38 rfl) (by decide) (by decide)) (g := (mkF m 20 #[vR ta, vI (1 : Int32), vI (3 : Int32), vR b79, vI (1 : Int32)] [(.int c1), (.int (1 : Int32)), (.ref b79)])) rfl (by rw [hml]; rfl) (argsL := [(.ref b79), (.int (1 : Int32)), (.int c1)]) (rest := []) (lenOf pd_9 rfl) rfl (by show 2 * 0 + _ ≤ _; exact Nat.le_of_eq rfl) (hb hby dto_20) (fun _ _ => ⟨rfl, rfl, (by decide : 1 + 0 ≤ _), (by decide : 6 + 0 ≤ _)⟩)
  dsimp only [Pt.U, Pt.locs, Pt.cells, Pt.slots] at X83 l83 y83 z83 st83 hQ83
  subst l83 y83 z83
  obtain ⟨rfl, Nq83, K83, V83⟩ := hQ83
  have N83 := Fr.app N81 Nq83
  have Ex84 : Ext h0 T83.heap := extKeep1 Ex82 K83 le79_
  refine Rch.st st83 ?_
  show Rch p e below T83 (mkF m 23 #[vR ta, vI (1 : Int32), vI (3 : Int32), vR b79, vI (1 : Int32)] []) _
  refine Rch.st (fun _ k => XS.iinc X83.here hx rfl (hb hby dto_23) rfl (l' := #[vR ta, vI (2 : Int32), vI (3 : Int32), vR b79, vI (1 : Int32)]) rfl k) ?_
  refine Rch.st (fun _ k => XS.iinc X83.here hx rfl (hb hby dto_26) rfl (l' := #[vR ta, vI (2 : Int32), vI (3 : Int32), vR b79, vI (2 : Int32)]) rfl k) ?_
  show Rch p e below T83 (mkF m 29 #[vR ta, vI (2 : Int32), vI (3 : Int32), vR b79, vI (2 : Int32)] []) _
  refine Rch.st (fun _ k => XS.goto X83.here hx rfl (pc0 := 29) (pc' := 8) rfl (hb hby dto_29) (by decide) (by decide) k) ?_
  refine Rch.st (fun _ k => XS.iload X83.here hx rfl (hb hby dto_8) rfl k) ?_
  show Rch p e below T83 (mkF m 10 #[vR ta, vI (2 : Int32), vI (3 : Int32), vR b79, vI (2 : Int32)] [(.int (2 : Int32))]) _
  refine Rch.st (fun _ k => XS.iloadN X83.here hx rfl (hb hby dto_10) rfl k) ?_
  refine Rch.st (fun _ k => XS.icmpNo X83.here hx rfl (hb hby dto_11) rfl (by decide : if_icmp.holds .ge (2 : Int32) (3 : Int32) = false) k) ?_
  show Rch p e below T83 (mkF m 14 #[vR ta, vI (2 : Int32), vI (3 : Int32), vR b79, vI (2 : Int32)] []) _
  refine Rch.st (fun _ k => XS.aloadN X83.here hx rfl (hb hby dto_14) rfl rfl k) ?_
  refine Rch.st (fun _ k => XS.iload X83.here hx rfl (hb hby dto_15) rfl k) ?_
  show Rch p e below T83 (mkF m 17 #[vR ta, vI (2 : Int32), vI (3 : Int32), vR b79, vI (2 : Int32)] [(.int (2 : Int32)), (.ref b79)]) _
  refine Rch.st (fun _ k => XS.aloadN X83.here hx rfl (hb hby dto_17) rfl rfl k) ?_
  refine Rch.st (fun _ k => XS.iloadN X83.here hx rfl (hb hby dto_18) rfl k) ?_
  show Rch p e below T83 (mkF m 19 #[vR ta, vI (2 : Int32), vI (3 : Int32), vR b79, vI (2 : Int32)] [(.int (2 : Int32)), (.ref ta), (.int (2 : Int32)), (.ref b79)]) _
  refine Rch.st (calA X83 hx hZ rfl (M.ext Ex84) ⟨by decide, by decide⟩ (v := (.int c2)) rfl (g := (mkF m 19 #[vR ta, vI (2 : Int32), vI (3 : Int32), vR b79, vI (2 : Int32)] [(.int (2 : Int32)), (.ref ta), (.int (2 : Int32)), (.ref b79)])) rfl rfl (hb hby dto_19)) ?_
  show Rch p e below T83 (mkF m 20 #[vR ta, vI (2 : Int32), vI (3 : Int32), vR b79, vI (2 : Int32)] [(.int c2), (.int (2 : Int32)), (.ref b79)]) _
  obtain ⟨_, _, ⟨T85, L85, k85, n85⟩, -, X85, ⟨Lc85, hQ85, l85, y85, z85⟩, st85⟩ := Jvm.LawKit.callS X83 hx (y := (⟨"java/lang/StringUTF16", "putChar", "([BII)V"⟩ : MethodName)) hown (mvT hZ (wq hw 116 rfl)) (mvT hZ (wq hw 117 rfl)) (mvT hZ (wq hw 38 rfl)) (mvT hZ (wq hw 118 rfl)) (by decide) (backOf (W := 0) (rm_put l Z a0 hw [] b79 kb79 [(.int (StrChars.lo8 c0)), (.int (StrChars.hi8 c0)), (.int (StrChars.lo8 c1)), (.int (StrChars.hi8 c1)), (.int (0 : Int32)), (.int (0 : Int32))] 2 c2 fm T83.heap n0 (Nat.le_trans Z0 Ex84.1) (B.ext Ex84) leb V83 (by first | decide | exact Nat.le_of_ble_eq_true rfl) (by first | decide | exact Nat.le_of_ble_eq_true rfl | rfl)) hZ (wq hw 118 rfl) (wq hw 38 rfl) (by decide) (by decide)) (g := (mkF m 20 #[vR ta, vI (2 : Int32), vI (3 : Int32), vR b79, vI (2 : Int32)] [(.int c2), (.int (2 : Int32)), (.ref b79)])) rfl (by rw [hml]; rfl) (argsL := [(.ref b79), (.int (2 : Int32)), (.int c2)]) (rest := []) (lenOf pd_9 rfl) rfl (by show 2 * 0 + _ ≤ _; exact Nat.le_of_eq rfl) (hb hby dto_20) (fun _ _ => ⟨rfl, rfl, (by decide : 1 + 0 ≤ _), (by decide : 6 + 0 ≤ _)⟩)
  dsimp only [Pt.U, Pt.locs, Pt.cells, Pt.slots] at X85 l85 y85 z85 st85 hQ85
  subst l85 y85 z85
  obtain ⟨rfl, Nq85, K85, V85⟩ := hQ85
  have N85 := Fr.app N83 Nq85
  have Ex86 : Ext h0 T85.heap := extKeep1 Ex84 K85 le79_
  refine Rch.st st85 ?_
  show Rch p e below T85 (mkF m 23 #[vR ta, vI (2 : Int32), vI (3 : Int32), vR b79, vI (2 : Int32)] []) _
  refine Rch.st (fun _ k => XS.iinc X85.here hx rfl (hb hby dto_23) rfl (l' := #[vR ta, vI (3 : Int32), vI (3 : Int32), vR b79, vI (2 : Int32)]) rfl k) ?_
  refine Rch.st (fun _ k => XS.iinc X85.here hx rfl (hb hby dto_26) rfl (l' := #[vR ta, vI (3 : Int32), vI (3 : Int32), vR b79, vI (3 : Int32)]) rfl k) ?_
  show Rch p e below T85 (mkF m 29 #[vR ta, vI (3 : Int32), vI (3 : Int32), vR b79, vI (3 : Int32)] []) _
  refine Rch.st (fun _ k => XS.goto X85.here hx rfl (pc0 := 29) (pc' := 8) rfl (hb hby dto_29) (by decide) (by decide) k) ?_
  refine Rch.st (fun _ k => XS.iload X85.here hx rfl (hb hby dto_8) rfl k) ?_
  show Rch p e below T85 (mkF m 10 #[vR ta, vI (3 : Int32), vI (3 : Int32), vR b79, vI (3 : Int32)] [(.int (3 : Int32))]) _
  refine Rch.st (fun _ k => XS.iloadN X85.here hx rfl (hb hby dto_10) rfl k) ?_
  refine Rch.st (fun _ k => XS.icmpYes X85.here hx rfl (pc0 := 11) (pc' := 32) rfl (hb hby dto_11) rfl (by decide : if_icmp.holds .ge (3 : Int32) (3 : Int32) = true) (by decide) (by decide) k) ?_
  show Rch p e below T85 (mkF m 32 #[vR ta, vI (3 : Int32), vI (3 : Int32), vR b79, vI (3 : Int32)] []) _
  refine Rch.st (fun _ k => XS.aloadN X85.here hx rfl (hb hby dto_32) rfl rfl k) ?_
  show Rch p e below T85 (mkF m 33 #[vR ta, vI (3 : Int32), vI (3 : Int32), vR b79, vI (3 : Int32)] [(.ref b79)]) _
  exact Rch.fin (Q := Q_toby3 Z ta ka c0 c1 c2 fm h0 n0) X85 (v := some (.ref b79)) (fun h => by rw [Bd.returns] at h; cases h) (BodyLoose.notSynchronized Bd) (fun fs hr => retR X85 hx Bd.returns rfl rfl (hb hby dto_33) hr) ⟨b79, kb79, rfl, N85, Ex86, le79_, V85⟩ (by decide) (by decide)
theorem pn_cmp3 : plainFor (⟨"java/lang/StringUTF16", "compress", "([CI[BII)I"⟩ : MethodName) = true := by first | exact plainFor_of_name (by first | (simp [plainName, overriddenIn]; done) | decide +kernel) | exact Jvm.Free.JP.mathPlain rfl (by decide +kernel)
theorem ef_cmp3 (m : MethodId) (x0 : Addr) (x1 : Int32) (x2 : Addr) (x3 : Int32) (x4 : Int32) : entryFrame m #[(.ref x0), (.int x1), (.ref x2), (.int x3), (.int x4)] 7 = mkF m 0 #[vR x0, vI x1, vR x2, vI x3, vI x4, .unset, .unset] [] := by first | (simp [entryFrame, mkF, argsToLocals, Value.category]; done) | rfl
def Q_cmp3 (Z : State) (ta tb : Addr) (ka kb : ClassId) (c0 c1 c2 : Int32) (h0 : Heap) (n0 : Nat) (v : Option Value) (h : Heap) (L : List Loc) : Prop := ∃ r, v = some (.int r) ∧ Fr n0 L ∧ Keep h0 h [tb] ∧ ((r = (0 : Int32) ∧ (255 : Int32) < c0) ∨ (r = (1 : Int32) ∧ (255 : Int32) < c1) ∨ (r = (2 : Int32) ∧ (255 : Int32) < c2))
set_option maxRecDepth 65536 in
set_option maxHeartbeats 40000000 in
theorem rm_cmp3 (l : Launch) (Z : State) (a0 : Array Value) (hw : ∀ d ∈ tables_1, d.before a0 Z = true) (ws : List Jvm.Cond) (ta tb : Addr) (ka kb : ClassId) (c0 c1 c2 : Int32) (h0 : Heap) (n0 : Nat) (Z0 : n0 ≤ h0.size) (hthis : n0 ≤ tb) (ne : ta ≠ tb) (M : Arv Z h0 ta ka .char (3 : Int32) [(.int c0), (.int c1), (.int c2)] (.int 0)) (D : Arv Z h0 tb kb .byte (3 : Int32) [(.int (0 : Int32)), (.int (0 : Int32)), (.int (0 : Int32))] (.int 0)) (hbig : (255 : Int32) < c0 ∨ (255 : Int32) < c1 ∨ (255 : Int32) < c2) :
    MetFree l (⟨"java/lang/StringUTF16", "compress", "([CI[BII)I"⟩ : MethodName) (head1 (Jvm.Cond.code (⟨"java/lang/StringUTF16", "compress", "([CI[BII)I"⟩ : MethodName) jdk_52_method_21_code 7 (some .int) :: ws) ({ frames := 0, cells := 0, slots := 0, locals := 0 } : Room)) (fun a U => a = #[(.ref ta), (.int (0 : Int32)), (.ref tb), (.int (0 : Int32)), (.int (3 : Int32))] ∧ Z.Warmed39 U.vm ∧ U.heap = h0) (fun _ _ _ _ _ => True) (fun _ U o U' => ∃ v L, o = .returned v ∧ Q_cmp3 Z ta tb ka kb c0 c1 c2 h0 n0 v U'.heap L ∧ FrameEnd U o U' L ({ frames := 0, cells := 0, slots := 0, locals := 0 } : Room).cells ({ frames := 0, cells := 0, slots := 0, locals := 0 } : Room).slots) := by
  refine MetFree.of_bodySF pn_cmp3 hisR ?_
  intro p e s m args below meth c s₁ Bd hml0 hP hK
  obtain ⟨rfl, hZ, hh⟩ := hP
  have hx := Bd.exec
  have hby := Bd.bytes
  have hml : c.maxLocals = 7 := hml0
  have hown : s.vm.findClass "java/lang/StringUTF16" = some m.cls := findClass_of_methodNamed Bd.named
  have hnm := (name_of_methodNamed Bd.named Bd.method).1
  have X0 : Stand p l e ({ frames := 0, cells := 0, slots := 0, locals := 0 } : Room) s m #[(.ref ta), (.int (0 : Int32)), (.ref tb), (.int (0 : Int32)), (.int (3 : Int32))] below meth c s₁ [] 0 0 := Stand.of_body Bd
  have e0 : s₁.heap = h0 := by rw [← hh, Bd.state]; rfl
  have N0 := Fr.nil n0
  show Rch p e below s₁ (entryFrame m #[(.ref ta), (.int (0 : Int32)), (.ref tb), (.int (0 : Int32)), (.int (3 : Int32))] 7) (fun U o => ∃ v L, o = .returned v ∧ Q_cmp3 Z ta tb ka kb c0 c1 c2 h0 n0 v U.heap L ∧ FrameEnd s o U L ({ frames := 0, cells := 0, slots := 0, locals := 0 } : Room).cells ({ frames := 0, cells := 0, slots := 0, locals := 0 } : Room).slots)
  refine Rch.cast (ef_cmp3 m ta (0 : Int32) tb (0 : Int32) (3 : Int32)) ?_
  show Rch p e below s₁ (mkF m 0 #[vR ta, vI (0 : Int32), vR tb, vI (0 : Int32), vI (3 : Int32), .unset, .unset] []) _
  refine Rch.st (fun _ k => XS.iconst X0.here hx rfl (hb hby dc5_0)  k) ?_
  refine Rch.st (fun _ k => XS.istore X0.here hx rfl (hb hby dc5_1) rfl (l' := #[vR ta, vI (0 : Int32), vR tb, vI (0 : Int32), vI (3 : Int32), vI (0 : Int32), .unset]) rfl k) ?_
  show Rch p e below s₁ (mkF m 3 #[vR ta, vI (0 : Int32), vR tb, vI (0 : Int32), vI (3 : Int32), vI (0 : Int32), .unset] []) _
  refine Rch.st (fun _ k => XS.iload X0.here hx rfl (hb hby dc5_3) rfl k) ?_
  refine Rch.st (fun _ k => XS.iload X0.here hx rfl (hb hby dc5_5) rfl k) ?_
  show Rch p e below s₁ (mkF m 7 #[vR ta, vI (0 : Int32), vR tb, vI (0 : Int32), vI (3 : Int32), vI (0 : Int32), .unset] [(.int (3 : Int32)), (.int (0 : Int32))]) _
  refine Rch.st (fun _ k => XS.icmpNo X0.here hx rfl (hb hby dc5_7) rfl (by decide : if_icmp.holds .ge (0 : Int32) (3 : Int32) = false) k) ?_
  refine Rch.st (fun _ k => XS.aloadN X0.here hx rfl (hb hby dc5_10) rfl rfl k) ?_
  show Rch p e below s₁ (mkF m 11 #[vR ta, vI (0 : Int32), vR tb, vI (0 : Int32), vI (3 : Int32), vI (0 : Int32), .unset] [(.ref ta)]) _
  refine Rch.st (fun _ k => XS.iloadN X0.here hx rfl (hb hby dc5_11) rfl k) ?_
  show Rch p e below s₁ (mkF m 12 #[vR ta, vI (0 : Int32), vR tb, vI (0 : Int32), vI (3 : Int32), vI (0 : Int32), .unset] [(.int (0 : Int32)), (.ref ta)]) _
  refine Rch.st (calA X0 hx hZ e0 M ⟨by decide, by decide⟩ (v := (.int c0)) rfl (g := (mkF m 12 #[vR ta, vI (0 : Int32), vR tb, vI (0 : Int32), vI (3 : Int32), vI (0 : Int32), .unset] [(.int (0 : Int32)), (.ref ta)])) rfl rfl (hb hby dc5_12)) ?_
  show Rch p e below s₁ (mkF m 13 #[vR ta, vI (0 : Int32), vR tb, vI (0 : Int32), vI (3 : Int32), vI (0 : Int32), .unset] [(.int c0)]) _
  refine Rch.st (fun _ k => XS.istore X0.here hx rfl (hb hby dc5_13) rfl (l' := #[vR ta, vI (0 : Int32), vR tb, vI (0 : Int32), vI (3 : Int32), vI (0 : Int32), vI c0]) rfl k) ?_
  refine Rch.st (fun _ k => XS.iload X0.here hx rfl (hb hby dc5_15) rfl k) ?_
  show Rch p e below s₁ (mkF m 17 #[vR ta, vI (0 : Int32), vR tb, vI (0 : Int32), vI (3 : Int32), vI (0 : Int32), vI c0] [(.int c0)]) _
  refine Rch.st (fun _ k => XS.sipush X0.here hx rfl (hb hby dc5_17)  k) ?_
  show Rch p e below s₁ (mkF m 20 #[vR ta, vI (0 : Int32), vR tb, vI (0 : Int32), vI (3 : Int32), vI (0 : Int32), vI c0] [(.int (255 : Int32)), (.int c0)]) _
  by_cases hbd0 : (255 : Int32) < c0
  · skip
    refine Rch.st (fun _ k => XS.icmpNo X0.here hx rfl (hb hby dc5_20) rfl (tlt hbd0).2.2.2 k) ?_
    refine Rch.st (fun _ k => XS.iload X0.here hx rfl (hb hby dc5_23) rfl k) ?_
    show Rch p e below s₁ (mkF m 25 #[vR ta, vI (0 : Int32), vR tb, vI (0 : Int32), vI (3 : Int32), vI (0 : Int32), vI c0] [(.int (0 : Int32))]) _
    exact Rch.fin (Q := Q_cmp3 Z ta tb ka kb c0 c1 c2 h0 n0) X0 (v := some (.int (0 : Int32))) (fun h => by rw [Bd.returns] at h; cases h) (BodyLoose.notSynchronized Bd) (fun fs hr => retI X0 hx Bd.returns (hb hby dc5_25) hr) (by rw [e0]; exact ⟨(0 : Int32), rfl, N0, (Keep.refl _ _), Or.inl ⟨rfl, hbd0⟩⟩) (by decide) (by decide)
  · skip
    refine Rch.st (fun _ k => XS.icmpYes X0.here hx rfl (pc0 := 20) (pc' := 26) rfl (hb hby dc5_20) rfl (flt hbd0).2.2.2 (by decide) (by decide) k) ?_
    refine Rch.st (fun _ k => XS.aloadN X0.here hx rfl (hb hby dc5_26) rfl rfl k) ?_
    show Rch p e below s₁ (mkF m 27 #[vR ta, vI (0 : Int32), vR tb, vI (0 : Int32), vI (3 : Int32), vI (0 : Int32), vI c0] [(.ref tb)]) _
    refine Rch.st (fun _ k => XS.iloadN X0.here hx rfl (hb hby dc5_27) rfl k) ?_
    refine Rch.st (fun _ k => XS.iload X0.here hx rfl (hb hby dc5_28) rfl k) ?_
    show Rch p e below s₁ (mkF m 30 #[vR ta, vI (0 : Int32), vR tb, vI (0 : Int32), vI (3 : Int32), vI (0 : Int32), vI c0] [(.int c0), (.int (0 : Int32)), (.ref tb)]) _
    refine Rch.st (fun _ k => XT.i2b X0.here hx rfl (hb hby dc5_30) rfl k) ?_
    show Rch p e below s₁ (mkF m 31 #[vR ta, vI (0 : Int32), vR tb, vI (0 : Int32), vI (3 : Int32), vI (0 : Int32), vI c0] [(.int (c0.toInt8.toInt32)), (.int (0 : Int32)), (.ref tb)]) _
    obtain ⟨T87, h87, L87, sl87, X87, e87, W87, V87, N87, st87⟩ := stBv X0 hx hZ e0 D N0 hthis (j := (0 : Int32)) ⟨by decide, by decide⟩ 0 rfl (Nat.le_of_ble_eq_true rfl) (g := (mkF m 31 #[vR ta, vI (0 : Int32), vR tb, vI (0 : Int32), vI (3 : Int32), vI (0 : Int32), vI c0] [(.int (c0.toInt8.toInt32)), (.int (0 : Int32)), (.ref tb)])) rfl rfl (hb hby dc5_31)
    have D87 : Arv Z h87 tb kb .byte (3 : Int32) [(.int (nar .byte c0.toInt8.toInt32)), (.int (0 : Int32)), (.int (0 : Int32))] (.int 0) := V87
    have M87 := (M).other W87 ne
    have K87 : Keep h0 h87 [tb] := (Keep.refl _ _).wr W87 (Or.inl (List.mem_singleton.mpr rfl))
    refine Rch.st st87 ?_
    show Rch p e below T87 (mkF m 32 #[vR ta, vI (0 : Int32), vR tb, vI (0 : Int32), vI (3 : Int32), vI (0 : Int32), vI c0] []) _
    refine Rch.st (fun _ k => XS.iinc X87.here hx rfl (hb hby dc5_32) rfl (l' := #[vR ta, vI (1 : Int32), vR tb, vI (0 : Int32), vI (3 : Int32), vI (0 : Int32), vI c0]) rfl k) ?_
    refine Rch.st (fun _ k => XS.iinc X87.here hx rfl (hb hby dc5_35) rfl (l' := #[vR ta, vI (1 : Int32), vR tb, vI (1 : Int32), vI (3 : Int32), vI (0 : Int32), vI c0]) rfl k) ?_
    show Rch p e below T87 (mkF m 38 #[vR ta, vI (1 : Int32), vR tb, vI (1 : Int32), vI (3 : Int32), vI (0 : Int32), vI c0] []) _
    refine Rch.st (fun _ k => XS.iinc X87.here hx rfl (hb hby dc5_38) rfl (l' := #[vR ta, vI (1 : Int32), vR tb, vI (1 : Int32), vI (3 : Int32), vI (1 : Int32), vI c0]) rfl k) ?_
    refine Rch.st (fun _ k => XS.goto X87.here hx rfl (pc0 := 41) (pc' := 3) rfl (hb hby dc5_41) (by decide) (by decide) k) ?_
    show Rch p e below T87 (mkF m 3 #[vR ta, vI (1 : Int32), vR tb, vI (1 : Int32), vI (3 : Int32), vI (1 : Int32), vI c0] []) _
    refine Rch.st (fun _ k => XS.iload X87.here hx rfl (hb hby dc5_3) rfl k) ?_
    refine Rch.st (fun _ k => XS.iload X87.here hx rfl (hb hby dc5_5) rfl k) ?_
    show Rch p e below T87 (mkF m 7 #[vR ta, vI (1 : Int32), vR tb, vI (1 : Int32), vI (3 : Int32), vI (1 : Int32), vI c0] [(.int (3 : Int32)), (.int (1 : Int32))]) _
    refine Rch.st (fun _ k => XS.icmpNo X87.here hx rfl (hb hby dc5_7) rfl (by decide : if_icmp.holds .ge (1 : Int32) (3 : Int32) = false) k) ?_
    refine Rch.st (fun _ k => XS.aloadN X87.here hx rfl (hb hby dc5_10) rfl rfl k) ?_
    show Rch p e below T87 (mkF m 11 #[vR ta, vI (1 : Int32), vR tb, vI (1 : Int32), vI (3 : Int32), vI (1 : Int32), vI c0] [(.ref ta)]) _
    refine Rch.st (fun _ k => XS.iloadN X87.here hx rfl (hb hby dc5_11) rfl k) ?_
    show Rch p e below T87 (mkF m 12 #[vR ta, vI (1 : Int32), vR tb, vI (1 : Int32), vI (3 : Int32), vI (1 : Int32), vI c0] [(.int (1 : Int32)), (.ref ta)]) _
    refine Rch.st (calA X87 hx hZ e87 M87 ⟨by decide, by decide⟩ (v := (.int c1)) rfl (g := (mkF m 12 #[vR ta, vI (1 : Int32), vR tb, vI (1 : Int32), vI (3 : Int32), vI (1 : Int32), vI c0] [(.int (1 : Int32)), (.ref ta)])) rfl rfl (hb hby dc5_12)) ?_
    show Rch p e below T87 (mkF m 13 #[vR ta, vI (1 : Int32), vR tb, vI (1 : Int32), vI (3 : Int32), vI (1 : Int32), vI c0] [(.int c1)]) _
    refine Rch.st (fun _ k => XS.istore X87.here hx rfl (hb hby dc5_13) rfl (l' := #[vR ta, vI (1 : Int32), vR tb, vI (1 : Int32), vI (3 : Int32), vI (1 : Int32), vI c1]) rfl k) ?_
    refine Rch.st (fun _ k => XS.iload X87.here hx rfl (hb hby dc5_15) rfl k) ?_
    show Rch p e below T87 (mkF m 17 #[vR ta, vI (1 : Int32), vR tb, vI (1 : Int32), vI (3 : Int32), vI (1 : Int32), vI c1] [(.int c1)]) _
    refine Rch.st (fun _ k => XS.sipush X87.here hx rfl (hb hby dc5_17)  k) ?_
    show Rch p e below T87 (mkF m 20 #[vR ta, vI (1 : Int32), vR tb, vI (1 : Int32), vI (3 : Int32), vI (1 : Int32), vI c1] [(.int (255 : Int32)), (.int c1)]) _
    by_cases hbd1 : (255 : Int32) < c1
    · skip
      refine Rch.st (fun _ k => XS.icmpNo X87.here hx rfl (hb hby dc5_20) rfl (tlt hbd1).2.2.2 k) ?_
      refine Rch.st (fun _ k => XS.iload X87.here hx rfl (hb hby dc5_23) rfl k) ?_
      show Rch p e below T87 (mkF m 25 #[vR ta, vI (1 : Int32), vR tb, vI (1 : Int32), vI (3 : Int32), vI (1 : Int32), vI c1] [(.int (1 : Int32))]) _
      exact Rch.fin (Q := Q_cmp3 Z ta tb ka kb c0 c1 c2 h0 n0) X87 (v := some (.int (1 : Int32))) (fun h => by rw [Bd.returns] at h; cases h) (BodyLoose.notSynchronized Bd) (fun fs hr => retI X87 hx Bd.returns (hb hby dc5_25) hr) (by rw [e87]; exact ⟨(1 : Int32), rfl, N87, K87, Or.inr (Or.inl ⟨rfl, hbd1⟩)⟩) (by decide) (by decide)
    · skip
      refine Rch.st (fun _ k => XS.icmpYes X87.here hx rfl (pc0 := 20) (pc' := 26) rfl (hb hby dc5_20) rfl (flt hbd1).2.2.2 (by decide) (by decide) k) ?_
      refine Rch.st (fun _ k => XS.aloadN X87.here hx rfl (hb hby dc5_26) rfl rfl k) ?_
      show Rch p e below T87 (mkF m 27 #[vR ta, vI (1 : Int32), vR tb, vI (1 : Int32), vI (3 : Int32), vI (1 : Int32), vI c1] [(.ref tb)]) _
      refine Rch.st (fun _ k => XS.iloadN X87.here hx rfl (hb hby dc5_27) rfl k) ?_
      refine Rch.st (fun _ k => XS.iload X87.here hx rfl (hb hby dc5_28) rfl k) ?_
      show Rch p e below T87 (mkF m 30 #[vR ta, vI (1 : Int32), vR tb, vI (1 : Int32), vI (3 : Int32), vI (1 : Int32), vI c1] [(.int c1), (.int (1 : Int32)), (.ref tb)]) _
      refine Rch.st (fun _ k => XT.i2b X87.here hx rfl (hb hby dc5_30) rfl k) ?_
      show Rch p e below T87 (mkF m 31 #[vR ta, vI (1 : Int32), vR tb, vI (1 : Int32), vI (3 : Int32), vI (1 : Int32), vI c1] [(.int (c1.toInt8.toInt32)), (.int (1 : Int32)), (.ref tb)]) _
      obtain ⟨T88, h88, L88, sl88, X88, e88, W88, V88, N88, st88⟩ := stBv X87 hx hZ e87 D87 N87 hthis (j := (1 : Int32)) ⟨by decide, by decide⟩ 1 rfl (Nat.le_of_ble_eq_true rfl) (g := (mkF m 31 #[vR ta, vI (1 : Int32), vR tb, vI (1 : Int32), vI (3 : Int32), vI (1 : Int32), vI c1] [(.int (c1.toInt8.toInt32)), (.int (1 : Int32)), (.ref tb)])) rfl rfl (hb hby dc5_31)
      have D88 : Arv Z h88 tb kb .byte (3 : Int32) [(.int (nar .byte c0.toInt8.toInt32)), (.int (nar .byte c1.toInt8.toInt32)), (.int (0 : Int32))] (.int 0) := V88
      have M88 := (M87).other W88 ne
      have K88 : Keep h0 h88 [tb] := K87.wr W88 (Or.inl (List.mem_singleton.mpr rfl))
      refine Rch.st st88 ?_
      show Rch p e below T88 (mkF m 32 #[vR ta, vI (1 : Int32), vR tb, vI (1 : Int32), vI (3 : Int32), vI (1 : Int32), vI c1] []) _
      refine Rch.st (fun _ k => XS.iinc X88.here hx rfl (hb hby dc5_32) rfl (l' := #[vR ta, vI (2 : Int32), vR tb, vI (1 : Int32), vI (3 : Int32), vI (1 : Int32), vI c1]) rfl k) ?_
      refine Rch.st (fun _ k => XS.iinc X88.here hx rfl (hb hby dc5_35) rfl (l' := #[vR ta, vI (2 : Int32), vR tb, vI (2 : Int32), vI (3 : Int32), vI (1 : Int32), vI c1]) rfl k) ?_
      show Rch p e below T88 (mkF m 38 #[vR ta, vI (2 : Int32), vR tb, vI (2 : Int32), vI (3 : Int32), vI (1 : Int32), vI c1] []) _
      refine Rch.st (fun _ k => XS.iinc X88.here hx rfl (hb hby dc5_38) rfl (l' := #[vR ta, vI (2 : Int32), vR tb, vI (2 : Int32), vI (3 : Int32), vI (2 : Int32), vI c1]) rfl k) ?_
      refine Rch.st (fun _ k => XS.goto X88.here hx rfl (pc0 := 41) (pc' := 3) rfl (hb hby dc5_41) (by decide) (by decide) k) ?_
      show Rch p e below T88 (mkF m 3 #[vR ta, vI (2 : Int32), vR tb, vI (2 : Int32), vI (3 : Int32), vI (2 : Int32), vI c1] []) _
      refine Rch.st (fun _ k => XS.iload X88.here hx rfl (hb hby dc5_3) rfl k) ?_
      refine Rch.st (fun _ k => XS.iload X88.here hx rfl (hb hby dc5_5) rfl k) ?_
      show Rch p e below T88 (mkF m 7 #[vR ta, vI (2 : Int32), vR tb, vI (2 : Int32), vI (3 : Int32), vI (2 : Int32), vI c1] [(.int (3 : Int32)), (.int (2 : Int32))]) _
      refine Rch.st (fun _ k => XS.icmpNo X88.here hx rfl (hb hby dc5_7) rfl (by decide : if_icmp.holds .ge (2 : Int32) (3 : Int32) = false) k) ?_
      refine Rch.st (fun _ k => XS.aloadN X88.here hx rfl (hb hby dc5_10) rfl rfl k) ?_
      show Rch p e below T88 (mkF m 11 #[vR ta, vI (2 : Int32), vR tb, vI (2 : Int32), vI (3 : Int32), vI (2 : Int32), vI c1] [(.ref ta)]) _
      refine Rch.st (fun _ k => XS.iloadN X88.here hx rfl (hb hby dc5_11) rfl k) ?_
      show Rch p e below T88 (mkF m 12 #[vR ta, vI (2 : Int32), vR tb, vI (2 : Int32), vI (3 : Int32), vI (2 : Int32), vI c1] [(.int (2 : Int32)), (.ref ta)]) _
      refine Rch.st (calA X88 hx hZ e88 M88 ⟨by decide, by decide⟩ (v := (.int c2)) rfl (g := (mkF m 12 #[vR ta, vI (2 : Int32), vR tb, vI (2 : Int32), vI (3 : Int32), vI (2 : Int32), vI c1] [(.int (2 : Int32)), (.ref ta)])) rfl rfl (hb hby dc5_12)) ?_
      show Rch p e below T88 (mkF m 13 #[vR ta, vI (2 : Int32), vR tb, vI (2 : Int32), vI (3 : Int32), vI (2 : Int32), vI c1] [(.int c2)]) _
      refine Rch.st (fun _ k => XS.istore X88.here hx rfl (hb hby dc5_13) rfl (l' := #[vR ta, vI (2 : Int32), vR tb, vI (2 : Int32), vI (3 : Int32), vI (2 : Int32), vI c2]) rfl k) ?_
      refine Rch.st (fun _ k => XS.iload X88.here hx rfl (hb hby dc5_15) rfl k) ?_
      show Rch p e below T88 (mkF m 17 #[vR ta, vI (2 : Int32), vR tb, vI (2 : Int32), vI (3 : Int32), vI (2 : Int32), vI c2] [(.int c2)]) _
      refine Rch.st (fun _ k => XS.sipush X88.here hx rfl (hb hby dc5_17)  k) ?_
      show Rch p e below T88 (mkF m 20 #[vR ta, vI (2 : Int32), vR tb, vI (2 : Int32), vI (3 : Int32), vI (2 : Int32), vI c2] [(.int (255 : Int32)), (.int c2)]) _
      by_cases hbd2 : (255 : Int32) < c2
      · skip
        refine Rch.st (fun _ k => XS.icmpNo X88.here hx rfl (hb hby dc5_20) rfl (tlt hbd2).2.2.2 k) ?_
        refine Rch.st (fun _ k => XS.iload X88.here hx rfl (hb hby dc5_23) rfl k) ?_
        show Rch p e below T88 (mkF m 25 #[vR ta, vI (2 : Int32), vR tb, vI (2 : Int32), vI (3 : Int32), vI (2 : Int32), vI c2] [(.int (2 : Int32))]) _
        exact Rch.fin (Q := Q_cmp3 Z ta tb ka kb c0 c1 c2 h0 n0) X88 (v := some (.int (2 : Int32))) (fun h => by rw [Bd.returns] at h; cases h) (BodyLoose.notSynchronized Bd) (fun fs hr => retI X88 hx Bd.returns (hb hby dc5_25) hr) (by rw [e88]; exact ⟨(2 : Int32), rfl, N88, K88, Or.inr (Or.inr (⟨rfl, hbd2⟩))⟩) (by decide) (by decide)
      · skip
        refine Rch.st (fun _ k => XS.icmpYes X88.here hx rfl (pc0 := 20) (pc' := 26) rfl (hb hby dc5_20) rfl (flt hbd2).2.2.2 (by decide) (by decide) k) ?_
        refine Rch.st (fun _ k => XS.aloadN X88.here hx rfl (hb hby dc5_26) rfl rfl k) ?_
        show Rch p e below T88 (mkF m 27 #[vR ta, vI (2 : Int32), vR tb, vI (2 : Int32), vI (3 : Int32), vI (2 : Int32), vI c2] [(.ref tb)]) _
        refine Rch.st (fun _ k => XS.iloadN X88.here hx rfl (hb hby dc5_27) rfl k) ?_
        refine Rch.st (fun _ k => XS.iload X88.here hx rfl (hb hby dc5_28) rfl k) ?_
        show Rch p e below T88 (mkF m 30 #[vR ta, vI (2 : Int32), vR tb, vI (2 : Int32), vI (3 : Int32), vI (2 : Int32), vI c2] [(.int c2), (.int (2 : Int32)), (.ref tb)]) _
        refine Rch.st (fun _ k => XT.i2b X88.here hx rfl (hb hby dc5_30) rfl k) ?_
        show Rch p e below T88 (mkF m 31 #[vR ta, vI (2 : Int32), vR tb, vI (2 : Int32), vI (3 : Int32), vI (2 : Int32), vI c2] [(.int (c2.toInt8.toInt32)), (.int (2 : Int32)), (.ref tb)]) _
        obtain ⟨T89, h89, L89, sl89, X89, e89, W89, V89, N89, st89⟩ := stBv X88 hx hZ e88 D88 N88 hthis (j := (2 : Int32)) ⟨by decide, by decide⟩ 2 rfl (Nat.le_of_ble_eq_true rfl) (g := (mkF m 31 #[vR ta, vI (2 : Int32), vR tb, vI (2 : Int32), vI (3 : Int32), vI (2 : Int32), vI c2] [(.int (c2.toInt8.toInt32)), (.int (2 : Int32)), (.ref tb)])) rfl rfl (hb hby dc5_31)
        have D89 : Arv Z h89 tb kb .byte (3 : Int32) [(.int (nar .byte c0.toInt8.toInt32)), (.int (nar .byte c1.toInt8.toInt32)), (.int (nar .byte c2.toInt8.toInt32))] (.int 0) := V89
        have M89 := (M88).other W89 ne
        have K89 : Keep h0 h89 [tb] := K88.wr W89 (Or.inl (List.mem_singleton.mpr rfl))
        refine Rch.st st89 ?_
        show Rch p e below T89 (mkF m 32 #[vR ta, vI (2 : Int32), vR tb, vI (2 : Int32), vI (3 : Int32), vI (2 : Int32), vI c2] []) _
        refine Rch.st (fun _ k => XS.iinc X89.here hx rfl (hb hby dc5_32) rfl (l' := #[vR ta, vI (3 : Int32), vR tb, vI (2 : Int32), vI (3 : Int32), vI (2 : Int32), vI c2]) rfl k) ?_
        refine Rch.st (fun _ k => XS.iinc X89.here hx rfl (hb hby dc5_35) rfl (l' := #[vR ta, vI (3 : Int32), vR tb, vI (3 : Int32), vI (3 : Int32), vI (2 : Int32), vI c2]) rfl k) ?_
        show Rch p e below T89 (mkF m 38 #[vR ta, vI (3 : Int32), vR tb, vI (3 : Int32), vI (3 : Int32), vI (2 : Int32), vI c2] []) _
        refine Rch.st (fun _ k => XS.iinc X89.here hx rfl (hb hby dc5_38) rfl (l' := #[vR ta, vI (3 : Int32), vR tb, vI (3 : Int32), vI (3 : Int32), vI (3 : Int32), vI c2]) rfl k) ?_
        refine Rch.st (fun _ k => XS.goto X89.here hx rfl (pc0 := 41) (pc' := 3) rfl (hb hby dc5_41) (by decide) (by decide) k) ?_
        show Rch p e below T89 (mkF m 3 #[vR ta, vI (3 : Int32), vR tb, vI (3 : Int32), vI (3 : Int32), vI (3 : Int32), vI c2] []) _
        refine Rch.st (fun _ k => XS.iload X89.here hx rfl (hb hby dc5_3) rfl k) ?_
        refine Rch.st (fun _ k => XS.iload X89.here hx rfl (hb hby dc5_5) rfl k) ?_
        show Rch p e below T89 (mkF m 7 #[vR ta, vI (3 : Int32), vR tb, vI (3 : Int32), vI (3 : Int32), vI (3 : Int32), vI c2] [(.int (3 : Int32)), (.int (3 : Int32))]) _
        exfalso
        rcases hbig with q | q | q
        · exact hbd0 q
        · exact hbd1 q
        · exact hbd2 q
theorem pn_nbf4 : plainFor (⟨"java/lang/StringUTF16", "newBytesFor", "(I)[B"⟩ : MethodName) = true := by first | exact plainFor_of_name (by first | (simp [plainName, overriddenIn]; done) | decide +kernel) | exact Jvm.Free.JP.mathPlain rfl (by decide +kernel)
theorem ef_nbf4 (m : MethodId) (x0 : Int32) : entryFrame m #[(.int x0)] 1 = mkF m 0 #[vI x0] [] := by first | (simp [entryFrame, mkF, argsToLocals, Value.category]; done) | rfl
def Q_nbf4 (Z : State)  (h0 : Heap) (n0 : Nat) (v : Option Value) (h : Heap) (L : List Loc) : Prop := ∃ b k, v = some (.ref b) ∧ Fr n0 L ∧ Ext h0 h ∧ h0.size ≤ b ∧ Arv Z h b k .byte (8 : Int32) [(.int (0 : Int32)), (.int (0 : Int32)), (.int (0 : Int32)), (.int (0 : Int32)), (.int (0 : Int32)), (.int (0 : Int32)), (.int (0 : Int32)), (.int (0 : Int32))] (.int 0)
set_option maxRecDepth 65536 in
set_option maxHeartbeats 40000000 in
theorem rm_nbf4 (l : Launch) (Z : State) (a0 : Array Value) (hw : ∀ d ∈ tables_1, d.before a0 Z = true) (ws : List Jvm.Cond) (h0 : Heap) (n0 : Nat) (Z0 : n0 ≤ h0.size) :
    MetFree l (⟨"java/lang/StringUTF16", "newBytesFor", "(I)[B"⟩ : MethodName) (head1 (Jvm.Cond.code (⟨"java/lang/StringUTF16", "newBytesFor", "(I)[B"⟩ : MethodName) jdk_52_method_2_code 1 (some (.array .byte)) :: ws) ({ frames := 1, cells := 1, slots := 8, locals := 12 } : Room)) (fun a U => a = #[(.int (4 : Int32))] ∧ Z.Warmed39 U.vm ∧ U.heap = h0) (fun _ _ _ _ _ => True) (fun _ U o U' => ∃ v L, o = .returned v ∧ Q_nbf4 Z  h0 n0 v U'.heap L ∧ FrameEnd U o U' L ({ frames := 1, cells := 1, slots := 8, locals := 12 } : Room).cells ({ frames := 1, cells := 1, slots := 8, locals := 12 } : Room).slots) := by
  refine MetFree.of_bodySF pn_nbf4 hisR ?_
  intro p e s m args below meth c s₁ Bd hml0 hP hK
  obtain ⟨rfl, hZ, hh⟩ := hP
  have hx := Bd.exec
  have hby := Bd.bytes
  have hml : c.maxLocals = 1 := hml0
  have hown : s.vm.findClass "java/lang/StringUTF16" = some m.cls := findClass_of_methodNamed Bd.named
  have hnm := (name_of_methodNamed Bd.named Bd.method).1
  have X0 : Stand p l e ({ frames := 1, cells := 1, slots := 8, locals := 12 } : Room) s m #[(.int (4 : Int32))] below meth c s₁ [] 0 0 := Stand.of_body Bd
  have e0 : s₁.heap = h0 := by rw [← hh, Bd.state]; rfl
  have N0 := Fr.nil n0
  show Rch p e below s₁ (entryFrame m #[(.int (4 : Int32))] 1) (fun U o => ∃ v L, o = .returned v ∧ Q_nbf4 Z  h0 n0 v U.heap L ∧ FrameEnd s o U L ({ frames := 1, cells := 1, slots := 8, locals := 12 } : Room).cells ({ frames := 1, cells := 1, slots := 8, locals := 12 } : Room).slots)
  refine Rch.cast (ef_nbf4 m (4 : Int32)) ?_
  show Rch p e below s₁ (mkF m 0 #[vI (4 : Int32)] []) _
  refine Rch.st (fun _ k => XS.iloadN X0.here hx rfl (hb hby dnf_0) rfl k) ?_
  show Rch p e below s₁ (mkF m 1 #[vI (4 : Int32)] [(.int (4 : Int32))]) _
  obtain ⟨_, _, ⟨T107, L107, k107, n107⟩, -, X107, ⟨Lc107, hQ107, l107, y107, z107⟩, st107⟩ := Jvm.LawKit.callS X0 hx (y := (⟨"java/lang/StringUTF16", "newBytesLength", "(I)I"⟩ : MethodName)) hown (mvT hZ (wq hw 112 rfl)) (mvT hZ (wq hw 113 rfl)) (mvT hZ (wq hw 38 rfl)) (mvT hZ (wq hw 114 rfl)) (by decide) (backOf (W := 0) (rm_nbl l Z a0 hw [] (4 : Int32) h0 n0 Z0 (by decide) (by decide)) hZ (wq hw 114 rfl) (wq hw 38 rfl) (by decide) (by decide)) (g := (mkF m 1 #[vI (4 : Int32)] [(.int (4 : Int32))])) rfl (by rw [hml]; rfl) (argsL := [(.int (4 : Int32))]) (rest := []) (lenOf pd_7 rfl) rfl (by show 2 * 0 + _ ≤ _; exact Nat.le_of_eq rfl) (hb hby dnf_1) (fun _ _ => ⟨rfl, e0, (by decide : 0 + 0 ≤ _), (by decide : 0 + 0 ≤ _)⟩)
  dsimp only [Pt.U, Pt.locs, Pt.cells, Pt.slots] at X107 l107 y107 z107 st107 hQ107
  subst l107 y107 z107
  obtain ⟨rfl, Nq107, e107⟩ := hQ107
  have N107 := Fr.app N0 Nq107
  refine Rch.st st107 ?_
  show Rch p e below T107 (mkF m 4 #[vI (4 : Int32)] [(.int (8 : Int32))]) _
  obtain ⟨T108, h108, k108, X108, e108, E108, A108, st108⟩ := newP X107 hx hZ (wq hw 15 rfl) e107 (g := (mkF m 4 #[vI (4 : Int32)] [(.int (8 : Int32))])) rfl (hb hby dnf_4) rfl (by decide : ¬ ((8 : Int32) < (0 : Int32))) (cap := 8) (by decide : ((8 : Int32)).toNatClampNeg ≤ 8) (by decide) (by decide) (by decide)
  obtain ⟨a108, g108⟩ : ∃ z, z = h0.size := ⟨_, rfl⟩
  rw [← g108] at A108 st108
  have Ex109 : Ext h0 h108 := E108
  have le110 : h0.size ≤ a108 := Nat.le_of_eq g108.symm
  refine Rch.st st108 ?_
  show Rch p e below T108 (mkF m 6 #[vI (4 : Int32)] [(.ref a108)]) _
  have V108 : Arv Z h108 a108 k108 .byte (8 : Int32) [(.int (0 : Int32)), (.int (0 : Int32)), (.int (0 : Int32)), (.int (0 : Int32)), (.int (0 : Int32)), (.int (0 : Int32)), (.int (0 : Int32)), (.int (0 : Int32))] (.int (0 : Int32)) := (Arv.new A108 (by decide : ¬ ((8 : Int32) < (0 : Int32)))).pad (pad_rep [] (.int (0 : Int32)) 8)
  exact Rch.fin (Q := Q_nbf4 Z  h0 n0) X108 (v := some (.ref a108)) (fun h => by rw [Bd.returns] at h; cases h) (BodyLoose.notSynchronized Bd) (fun fs hr => retR X108 hx Bd.returns rfl rfl (hb hby dnf_6) hr) (by rw [e108]; exact ⟨a108, k108, rfl, N107, Ex109, le110, V108⟩) (by decide) (by decide)
theorem pn_toby4 : plainFor (⟨"java/lang/StringUTF16", "toBytes", "([CII)[B"⟩ : MethodName) = true := by first | exact plainFor_of_name (by first | (simp [plainName, overriddenIn]; done) | decide +kernel) | exact Jvm.Free.JP.mathPlain rfl (by decide +kernel)
theorem ef_toby4 (m : MethodId) (x0 : Addr) (x1 : Int32) (x2 : Int32) : entryFrame m #[(.ref x0), (.int x1), (.int x2)] 5 = mkF m 0 #[vR x0, vI x1, vI x2, .unset, .unset] [] := by first | (simp [entryFrame, mkF, argsToLocals, Value.category]; done) | rfl
def Q_toby4 (Z : State) (ta : Addr) (ka : ClassId) (c0 c1 c2 c3 : Int32) (fm : Value) (h0 : Heap) (n0 : Nat) (v : Option Value) (h : Heap) (L : List Loc) : Prop := ∃ b k, v = some (.ref b) ∧ Fr n0 L ∧ Ext h0 h ∧ h0.size ≤ b ∧ Arv Z h b k .byte (8 : Int32) (StrChars.Road.wideBytes [c0, c1, c2, c3]) (.int 0)
set_option maxRecDepth 65536 in
set_option maxHeartbeats 40000000 in
theorem rm_toby4 (l : Launch) (Z : State) (a0 : Array Value) (hw : ∀ d ∈ tables_1, d.before a0 Z = true) (ws : List Jvm.Cond) (ta : Addr) (ka : ClassId) (c0 c1 c2 c3 : Int32) (fm : Value) (h0 : Heap) (n0 : Nat) (Z0 : n0 ≤ h0.size) (B : Bg Z h0 fm) (M : Arv Z h0 ta ka .char (4 : Int32) [(.int c0), (.int c1), (.int c2), (.int c3)] (.int 0)) :
    MetFree l (⟨"java/lang/StringUTF16", "toBytes", "([CII)[B"⟩ : MethodName) (head1 (Jvm.Cond.code (⟨"java/lang/StringUTF16", "toBytes", "([CII)[B"⟩ : MethodName) jdk_52_method_14_code 5 (some (.array .byte)) :: ws) ({ frames := 2, cells := 1, slots := 8, locals := 24 } : Room)) (fun a U => a = #[(.ref ta), (.int (0 : Int32)), (.int (4 : Int32))] ∧ Z.Warmed39 U.vm ∧ U.heap = h0) (fun _ _ _ _ _ => True) (fun _ U o U' => ∃ v L, o = .returned v ∧ Q_toby4 Z ta ka c0 c1 c2 c3 fm h0 n0 v U'.heap L ∧ FrameEnd U o U' L ({ frames := 2, cells := 1, slots := 8, locals := 24 } : Room).cells ({ frames := 2, cells := 1, slots := 8, locals := 24 } : Room).slots) := by
  refine MetFree.of_bodySF pn_toby4 hisR ?_
  intro p e s m args below meth c s₁ Bd hml0 hP hK
  obtain ⟨rfl, hZ, hh⟩ := hP
  have hx := Bd.exec
  have hby := Bd.bytes
  have hml : c.maxLocals = 5 := hml0
  have hown : s.vm.findClass "java/lang/StringUTF16" = some m.cls := findClass_of_methodNamed Bd.named
  have hnm := (name_of_methodNamed Bd.named Bd.method).1
  have X0 : Stand p l e ({ frames := 2, cells := 1, slots := 8, locals := 24 } : Room) s m #[(.ref ta), (.int (0 : Int32)), (.int (4 : Int32))] below meth c s₁ [] 0 0 := Stand.of_body Bd
  have e0 : s₁.heap = h0 := by rw [← hh, Bd.state]; rfl
  have N0 := Fr.nil n0
  show Rch p e below s₁ (entryFrame m #[(.ref ta), (.int (0 : Int32)), (.int (4 : Int32))] 5) (fun U o => ∃ v L, o = .returned v ∧ Q_toby4 Z ta ka c0 c1 c2 c3 fm h0 n0 v U.heap L ∧ FrameEnd s o U L ({ frames := 2, cells := 1, slots := 8, locals := 24 } : Room).cells ({ frames := 2, cells := 1, slots := 8, locals := 24 } : Room).slots)
  refine Rch.cast (ef_toby4 m ta (0 : Int32) (4 : Int32)) ?_
  show Rch p e below s₁ (mkF m 0 #[vR ta, vI (0 : Int32), vI (4 : Int32), .unset, .unset] []) _
  refine Rch.st (fun _ k => XS.iloadN X0.here hx rfl (hb hby dto_0) rfl k) ?_
  show Rch p e below s₁ (mkF m 1 #[vR ta, vI (0 : Int32), vI (4 : Int32), .unset, .unset] [(.int (4 : Int32))]) _
  obtain ⟨_, _, ⟨T111, L111, k111, n111⟩, -, X111, ⟨Lc111, hQ111, l111, y111, z111⟩, st111⟩ := Jvm.LawKit.callS X0 hx (y := (⟨"java/lang/StringUTF16", "newBytesFor", "(I)[B"⟩ : MethodName)) hown (mvT hZ (wq hw 109 rfl)) (mvT hZ (wq hw 110 rfl)) (mvT hZ (wq hw 38 rfl)) (mvT hZ (wq hw 111 rfl)) (by decide) (backOf (W := 0) (rm_nbf4 l Z a0 hw [] h0 n0 Z0) hZ (wq hw 111 rfl) (wq hw 38 rfl) (by decide) (by decide)) (g := (mkF m 1 #[vR ta, vI (0 : Int32), vI (4 : Int32), .unset, .unset] [(.int (4 : Int32))])) rfl (by rw [hml]; rfl) (argsL := [(.int (4 : Int32))]) (rest := []) (lenOf pd_8 rfl) rfl (by show 2 * 0 + _ ≤ _; exact Nat.le_of_eq rfl) (hb hby dto_1) (fun _ _ => ⟨rfl, e0, (by decide : 0 + 1 ≤ _), (by decide : 0 + 8 ≤ _)⟩)
  dsimp only [Pt.U, Pt.locs, Pt.cells, Pt.slots] at X111 l111 y111 z111 st111 hQ111
  subst l111 y111 z111
  obtain ⟨b111, kb111, rfl, Nq111, E111, le111_, V111⟩ := hQ111
  have N111 := Fr.app N0 Nq111
  have Ex112 : Ext h0 T111.heap := E111
  refine Rch.st st111 ?_
  show Rch p e below T111 (mkF m 4 #[vR ta, vI (0 : Int32), vI (4 : Int32), .unset, .unset] [(.ref b111)]) _
  have leb : n0 ≤ b111 := Nat.le_trans Z0 le111_
  refine Rch.st (fun _ k => XS.astoreN X111.here hx rfl (hb hby dto_4) rfl rfl (l' := #[vR ta, vI (0 : Int32), vI (4 : Int32), vR b111, .unset]) rfl k) ?_
  refine Rch.st (fun _ k => XS.iconst X111.here hx rfl (hb hby dto_5)  k) ?_
  show Rch p e below T111 (mkF m 6 #[vR ta, vI (0 : Int32), vI (4 : Int32), vR b111, .unset] [(.int (0 : Int32))]) _
  refine Rch.st (fun _ k => XS.istore X111.here hx rfl (hb hby dto_6) rfl (l' := #[vR ta, vI (0 : Int32), vI (4 : Int32), vR b111, vI (0 : Int32)]) rfl k) ?_
  refine Rch.st (fun _ k => XS.iload X111.here hx rfl (hb hby dto_8) rfl k) ?_
  show Rch p e below T111 (mkF m 10 #[vR ta, vI (0 : Int32), vI (4 : Int32), vR b111, vI (0 : Int32)] [(.int (0 : Int32))]) _
  refine Rch.st (fun _ k => XS.iloadN X111.here hx rfl (hb hby dto_10) rfl k) ?_
  refine Rch.st (fun _ k => XS.icmpNo X111.here hx rfl (hb hby dto_11) rfl (by decide : if_icmp.holds .ge (0 : Int32) (4 : Int32) = false) k) ?_
  show Rch p e below T111 (mkF m 14 #[vR ta, vI (0 : Int32), vI (4 : Int32), vR b111, vI (0 : Int32)] []) _
  refine Rch.st (fun _ k => XS.aloadN X111.here hx rfl (hb hby dto_14) rfl rfl k) ?_
  refine Rch.st (fun _ k => XS.iload X111.here hx rfl (hb hby dto_15) rfl k) ?_
  show Rch p e below T111 (mkF m 17 #[vR ta, vI (0 : Int32), vI (4 : Int32), vR b111, vI (0 : Int32)] [(.int (0 : Int32)), (.ref b111)]) _
  refine Rch.st (fun _ k => XS.aloadN X111.here hx rfl (hb hby dto_17) rfl rfl k) ?_
  refine Rch.st (fun _ k => XS.iloadN X111.here hx rfl (hb hby dto_18) rfl k) ?_
  show Rch p e below T111 (mkF m 19 #[vR ta, vI (0 : Int32), vI (4 : Int32), vR b111, vI (0 : Int32)] [(.int (0 : Int32)), (.ref ta), (.int (0 : Int32)), (.ref b111)]) _
  refine Rch.st (calA X111 hx hZ rfl (M.ext Ex112) ⟨by decide, by decide⟩ (v := (.int c0)) rfl (g := (mkF m 19 #[vR ta, vI (0 : Int32), vI (4 : Int32), vR b111, vI (0 : Int32)] [(.int (0 : Int32)), (.ref ta), (.int (0 : Int32)), (.ref b111)])) rfl rfl (hb hby dto_19)) ?_
  show Rch p e below T111 (mkF m 20 #[vR ta, vI (0 : Int32), vI (4 : Int32), vR b111, vI (0 : Int32)] [(.int c0), (.int (0 : Int32)), (.ref b111)]) _
  obtain ⟨_, _, ⟨T113, L113, k113, n113⟩, -, X113, ⟨Lc113, hQ113, l113, y113, z113⟩, st113⟩ := Jvm.LawKit.callS X111 hx (y := (⟨"java/lang/StringUTF16", "putChar", "([BII)V"⟩ : MethodName)) hown (mvT hZ (wq hw 116 rfl)) (mvT hZ (wq hw 117 rfl)) (mvT hZ (wq hw 38 rfl)) (mvT hZ (wq hw 118 rfl)) (by decide) (backOf (W := 0) (rm_put l Z a0 hw [] b111 kb111 [(.int (0 : Int32)), (.int (0 : Int32)), (.int (0 : Int32)), (.int (0 : Int32)), (.int (0 : Int32)), (.int (0 : Int32)), (.int (0 : Int32)), (.int (0 : Int32))] 0 c0 fm T111.heap n0 (Nat.le_trans Z0 Ex112.1) (B.ext Ex112) leb V111 (by first | decide | exact Nat.le_of_ble_eq_true rfl) (by first | decide | exact Nat.le_of_ble_eq_true rfl | rfl)) hZ (wq hw 118 rfl) (wq hw 38 rfl) (by decide) (by decide)) (g := (mkF m 20 #[vR ta, vI (0 : Int32), vI (4 : Int32), vR b111, vI (0 : Int32)] [(.int c0), (.int (0 : Int32)), (.ref b111)])) rfl (by rw [hml]; rfl) (argsL := [(.ref b111), (.int (0 : Int32)), (.int c0)]) (rest := []) (lenOf pd_9 rfl) rfl (by show 2 * 0 + _ ≤ _; exact Nat.le_of_eq rfl) (hb hby dto_20) (fun _ _ => ⟨rfl, rfl, (by decide : 1 + 0 ≤ _), (by decide : 8 + 0 ≤ _)⟩)
  dsimp only [Pt.U, Pt.locs, Pt.cells, Pt.slots] at X113 l113 y113 z113 st113 hQ113
  subst l113 y113 z113
  obtain ⟨rfl, Nq113, K113, V113⟩ := hQ113
  have N113 := Fr.app N111 Nq113
  have Ex114 : Ext h0 T113.heap := extKeep1 Ex112 K113 le111_
  refine Rch.st st113 ?_
  show Rch p e below T113 (mkF m 23 #[vR ta, vI (0 : Int32), vI (4 : Int32), vR b111, vI (0 : Int32)] []) _
  refine Rch.st (fun _ k => XS.iinc X113.here hx rfl (hb hby dto_23) rfl (l' := #[vR ta, vI (1 : Int32), vI (4 : Int32), vR b111, vI (0 : Int32)]) rfl k) ?_
  refine Rch.st (fun _ k => XS.iinc X113.here hx rfl (hb hby dto_26) rfl (l' := #[vR ta, vI (1 : Int32), vI (4 : Int32), vR b111, vI (1 : Int32)]) rfl k) ?_
  show Rch p e below T113 (mkF m 29 #[vR ta, vI (1 : Int32), vI (4 : Int32), vR b111, vI (1 : Int32)] []) _
  refine Rch.st (fun _ k => XS.goto X113.here hx rfl (pc0 := 29) (pc' := 8) rfl (hb hby dto_29) (by decide) (by decide) k) ?_
  refine Rch.st (fun _ k => XS.iload X113.here hx rfl (hb hby dto_8) rfl k) ?_
  show Rch p e below T113 (mkF m 10 #[vR ta, vI (1 : Int32), vI (4 : Int32), vR b111, vI (1 : Int32)] [(.int (1 : Int32))]) _
  refine Rch.st (fun _ k => XS.iloadN X113.here hx rfl (hb hby dto_10) rfl k) ?_
  refine Rch.st (fun _ k => XS.icmpNo X113.here hx rfl (hb hby dto_11) rfl (by decide : if_icmp.holds .ge (1 : Int32) (4 : Int32) = false) k) ?_
  show Rch p e below T113 (mkF m 14 #[vR ta, vI (1 : Int32), vI (4 : Int32), vR b111, vI (1 : Int32)] []) _
  refine Rch.st (fun _ k => XS.aloadN X113.here hx rfl (hb hby dto_14) rfl rfl k) ?_
  refine Rch.st (fun _ k => XS.iload X113.here hx rfl (hb hby dto_15) rfl k) ?_
  show Rch p e below T113 (mkF m 17 #[vR ta, vI (1 : Int32), vI (4 : Int32), vR b111, vI (1 : Int32)] [(.int (1 : Int32)), (.ref b111)]) _
  refine Rch.st (fun _ k => XS.aloadN X113.here hx rfl (hb hby dto_17) rfl rfl k) ?_
  refine Rch.st (fun _ k => XS.iloadN X113.here hx rfl (hb hby dto_18) rfl k) ?_
  show Rch p e below T113 (mkF m 19 #[vR ta, vI (1 : Int32), vI (4 : Int32), vR b111, vI (1 : Int32)] [(.int (1 : Int32)), (.ref ta), (.int (1 : Int32)), (.ref b111)]) _
  refine Rch.st (calA X113 hx hZ rfl (M.ext Ex114) ⟨by decide, by decide⟩ (v := (.int c1)) rfl (g := (mkF m 19 #[vR ta, vI (1 : Int32), vI (4 : Int32), vR b111, vI (1 : Int32)] [(.int (1 : Int32)), (.ref ta), (.int (1 : Int32)), (.ref b111)])) rfl rfl (hb hby dto_19)) ?_
  show Rch p e below T113 (mkF m 20 #[vR ta, vI (1 : Int32), vI (4 : Int32), vR b111, vI (1 : Int32)] [(.int c1), (.int (1 : Int32)), (.ref b111)]) _
  obtain ⟨_, _, ⟨T115, L115, k115, n115⟩, -, X115, ⟨Lc115, hQ115, l115, y115, z115⟩, st115⟩ := Jvm.LawKit.callS X113 hx (y := (⟨"java/lang/StringUTF16", "putChar", "([BII)V"⟩ : MethodName)) hown (mvT hZ (wq hw 116 rfl)) (mvT hZ (wq hw 117 rfl)) (mvT hZ (wq hw 38 rfl)) (mvT hZ (wq hw 118 rfl)) (by decide) (backOf (W := 0) (rm_put l Z a0 hw [] b111 kb111 [(.int (StrChars.lo8 c0)), (.int (StrChars.hi8 c0)), (.int (0 : Int32)), (.int (0 : Int32)), (.int (0 : Int32)), (.int (0 : Int32)), (.int (0 : Int32)), (.int (0 : Int32))] 1 c1 fm T113.heap n0 (Nat.le_trans Z0 Ex114.1) (B.ext Ex114) leb V113 (by first | decide | exact Nat.le_of_ble_eq_true rfl) (by first | decide | exact Nat.le_of_ble_eq_true rfl | rfl)) hZ (wq hw 118 rfl) (wq hw 38 rfl) (by decide) (by decide)) (g := (mkF m 20 #[vR ta, vI (1 : Int32), vI (4 : Int32), vR b111, vI (1 : Int32)] [(.int c1), (.int (1 : Int32)), (.ref b111)])) rfl (by rw [hml]; rfl) (argsL := [(.ref b111), (.int (1 : Int32)), (.int c1)]) (rest := []) (lenOf pd_9 rfl) rfl (by show 2 * 0 + _ ≤ _; exact Nat.le_of_eq rfl) (hb hby dto_20) (fun _ _ => ⟨rfl, rfl, (by decide : 1 + 0 ≤ _), (by decide : 8 + 0 ≤ _)⟩)
  dsimp only [Pt.U, Pt.locs, Pt.cells, Pt.slots] at X115 l115 y115 z115 st115 hQ115
  subst l115 y115 z115
  obtain ⟨rfl, Nq115, K115, V115⟩ := hQ115
  have N115 := Fr.app N113 Nq115
  have Ex116 : Ext h0 T115.heap := extKeep1 Ex114 K115 le111_
  refine Rch.st st115 ?_
  show Rch p e below T115 (mkF m 23 #[vR ta, vI (1 : Int32), vI (4 : Int32), vR b111, vI (1 : Int32)] []) _
  refine Rch.st (fun _ k => XS.iinc X115.here hx rfl (hb hby dto_23) rfl (l' := #[vR ta, vI (2 : Int32), vI (4 : Int32), vR b111, vI (1 : Int32)]) rfl k) ?_
  refine Rch.st (fun _ k => XS.iinc X115.here hx rfl (hb hby dto_26) rfl (l' := #[vR ta, vI (2 : Int32), vI (4 : Int32), vR b111, vI (2 : Int32)]) rfl k) ?_
  show Rch p e below T115 (mkF m 29 #[vR ta, vI (2 : Int32), vI (4 : Int32), vR b111, vI (2 : Int32)] []) _
  refine Rch.st (fun _ k => XS.goto X115.here hx rfl (pc0 := 29) (pc' := 8) rfl (hb hby dto_29) (by decide) (by decide) k) ?_
  refine Rch.st (fun _ k => XS.iload X115.here hx rfl (hb hby dto_8) rfl k) ?_
  show Rch p e below T115 (mkF m 10 #[vR ta, vI (2 : Int32), vI (4 : Int32), vR b111, vI (2 : Int32)] [(.int (2 : Int32))]) _
  refine Rch.st (fun _ k => XS.iloadN X115.here hx rfl (hb hby dto_10) rfl k) ?_
  refine Rch.st (fun _ k => XS.icmpNo X115.here hx rfl (hb hby dto_11) rfl (by decide : if_icmp.holds .ge (2 : Int32) (4 : Int32) = false) k) ?_
  show Rch p e below T115 (mkF m 14 #[vR ta, vI (2 : Int32), vI (4 : Int32), vR b111, vI (2 : Int32)] []) _
  refine Rch.st (fun _ k => XS.aloadN X115.here hx rfl (hb hby dto_14) rfl rfl k) ?_
  refine Rch.st (fun _ k => XS.iload X115.here hx rfl (hb hby dto_15) rfl k) ?_
  show Rch p e below T115 (mkF m 17 #[vR ta, vI (2 : Int32), vI (4 : Int32), vR b111, vI (2 : Int32)] [(.int (2 : Int32)), (.ref b111)]) _
  refine Rch.st (fun _ k => XS.aloadN X115.here hx rfl (hb hby dto_17) rfl rfl k) ?_
  refine Rch.st (fun _ k => XS.iloadN X115.here hx rfl (hb hby dto_18) rfl k) ?_
  show Rch p e below T115 (mkF m 19 #[vR ta, vI (2 : Int32), vI (4 : Int32), vR b111, vI (2 : Int32)] [(.int (2 : Int32)), (.ref ta), (.int (2 : Int32)), (.ref b111)]) _
  refine Rch.st (calA X115 hx hZ rfl (M.ext Ex116) ⟨by decide, by decide⟩ (v := (.int c2)) rfl (g := (mkF m 19 #[vR ta, vI (2 : Int32), vI (4 : Int32), vR b111, vI (2 : Int32)] [(.int (2 : Int32)), (.ref ta), (.int (2 : Int32)), (.ref b111)])) rfl rfl (hb hby dto_19)) ?_
  show Rch p e below T115 (mkF m 20 #[vR ta, vI (2 : Int32), vI (4 : Int32), vR b111, vI (2 : Int32)] [(.int c2), (.int (2 : Int32)), (.ref b111)]) _
  obtain ⟨_, _, ⟨T117, L117, k117, n117⟩, -, X117, ⟨Lc117, hQ117, l117, y117, z117⟩, st117⟩ := Jvm.LawKit.callS X115 hx (y := (⟨"java/lang/StringUTF16", "putChar", "([BII)V"⟩ : MethodName)) hown (mvT hZ (wq hw 116 rfl)) (mvT hZ (wq hw 117 rfl)) (mvT hZ (wq hw 38 rfl)) (mvT hZ (wq hw 118 rfl)) (by decide) (backOf (W := 0) (rm_put l Z a0 hw [] b111 kb111 [(.int (StrChars.lo8 c0)), (.int (StrChars.hi8 c0)), (.int (StrChars.lo8 c1)), (.int (StrChars.hi8 c1)), (.int (0 : Int32)), (.int (0 : Int32)), (.int (0 : Int32)), (.int (0 : Int32))] 2 c2 fm T115.heap n0 (Nat.le_trans Z0 Ex116.1) (B.ext Ex116) leb V115 (by first | decide | exact Nat.le_of_ble_eq_true rfl) (by first | decide | exact Nat.le_of_ble_eq_true rfl | rfl)) hZ (wq hw 118 rfl) (wq hw 38 rfl) (by decide) (by decide)) (g := (mkF m 20 #[vR ta, vI (2 : Int32), vI (4 : Int32), vR b111, vI (2 : Int32)] [(.int c2), (.int (2 : Int32)), (.ref b111)])) rfl (by rw [hml]; rfl) (argsL := [(.ref b111), (.int (2 : Int32)), (.int c2)]) (rest := []) (lenOf pd_9 rfl) rfl (by show 2 * 0 + _ ≤ _; exact Nat.le_of_eq rfl) (hb hby dto_20) (fun _ _ => ⟨rfl, rfl, (by decide : 1 + 0 ≤ _), (by decide : 8 + 0 ≤ _)⟩)
  dsimp only [Pt.U, Pt.locs, Pt.cells, Pt.slots] at X117 l117 y117 z117 st117 hQ117
  subst l117 y117 z117
  obtain ⟨rfl, Nq117, K117, V117⟩ := hQ117
  have N117 := Fr.app N115 Nq117
  have Ex118 : Ext h0 T117.heap := extKeep1 Ex116 K117 le111_
  refine Rch.st st117 ?_
  show Rch p e below T117 (mkF m 23 #[vR ta, vI (2 : Int32), vI (4 : Int32), vR b111, vI (2 : Int32)] []) _
  refine Rch.st (fun _ k => XS.iinc X117.here hx rfl (hb hby dto_23) rfl (l' := #[vR ta, vI (3 : Int32), vI (4 : Int32), vR b111, vI (2 : Int32)]) rfl k) ?_
  refine Rch.st (fun _ k => XS.iinc X117.here hx rfl (hb hby dto_26) rfl (l' := #[vR ta, vI (3 : Int32), vI (4 : Int32), vR b111, vI (3 : Int32)]) rfl k) ?_
  show Rch p e below T117 (mkF m 29 #[vR ta, vI (3 : Int32), vI (4 : Int32), vR b111, vI (3 : Int32)] []) _
  refine Rch.st (fun _ k => XS.goto X117.here hx rfl (pc0 := 29) (pc' := 8) rfl (hb hby dto_29) (by decide) (by decide) k) ?_
  refine Rch.st (fun _ k => XS.iload X117.here hx rfl (hb hby dto_8) rfl k) ?_
  show Rch p e below T117 (mkF m 10 #[vR ta, vI (3 : Int32), vI (4 : Int32), vR b111, vI (3 : Int32)] [(.int (3 : Int32))]) _
  refine Rch.st (fun _ k => XS.iloadN X117.here hx rfl (hb hby dto_10) rfl k) ?_
  refine Rch.st (fun _ k => XS.icmpNo X117.here hx rfl (hb hby dto_11) rfl (by decide : if_icmp.holds .ge (3 : Int32) (4 : Int32) = false) k) ?_
  show Rch p e below T117 (mkF m 14 #[vR ta, vI (3 : Int32), vI (4 : Int32), vR b111, vI (3 : Int32)] []) _
  refine Rch.st (fun _ k => XS.aloadN X117.here hx rfl (hb hby dto_14) rfl rfl k) ?_
  refine Rch.st (fun _ k => XS.iload X117.here hx rfl (hb hby dto_15) rfl k) ?_
  show Rch p e below T117 (mkF m 17 #[vR ta, vI (3 : Int32), vI (4 : Int32), vR b111, vI (3 : Int32)] [(.int (3 : Int32)), (.ref b111)]) _
  refine Rch.st (fun _ k => XS.aloadN X117.here hx rfl (hb hby dto_17) rfl rfl k) ?_
  refine Rch.st (fun _ k => XS.iloadN X117.here hx rfl (hb hby dto_18) rfl k) ?_
  show Rch p e below T117 (mkF m 19 #[vR ta, vI (3 : Int32), vI (4 : Int32), vR b111, vI (3 : Int32)] [(.int (3 : Int32)), (.ref ta), (.int (3 : Int32)), (.ref b111)]) _
  refine Rch.st (calA X117 hx hZ rfl (M.ext Ex118) ⟨by decide, by decide⟩ (v := (.int c3)) rfl (g := (mkF m 19 #[vR ta, vI (3 : Int32), vI (4 : Int32), vR b111, vI (3 : Int32)] [(.int (3 : Int32)), (.ref ta), (.int (3 : Int32)), (.ref b111)])) rfl rfl (hb hby dto_19)) ?_
  show Rch p e below T117 (mkF m 20 #[vR ta, vI (3 : Int32), vI (4 : Int32), vR b111, vI (3 : Int32)] [(.int c3), (.int (3 : Int32)), (.ref b111)]) _
  obtain ⟨_, _, ⟨T119, L119, k119, n119⟩, -, X119, ⟨Lc119, hQ119, l119, y119, z119⟩, st119⟩ := Jvm.LawKit.callS X117 hx (y := (⟨"java/lang/StringUTF16", "putChar", "([BII)V"⟩ : MethodName)) hown (mvT hZ (wq hw 116 rfl)) (mvT hZ (wq hw 117 rfl)) (mvT hZ (wq hw 38 rfl)) (mvT hZ (wq hw 118 rfl)) (by decide) (backOf (W := 0) (rm_put l Z a0 hw [] b111 kb111 [(.int (StrChars.lo8 c0)), (.int (StrChars.hi8 c0)), (.int (StrChars.lo8 c1)), (.int (StrChars.hi8 c1)), (.int (StrChars.lo8 c2)), (.int (StrChars.hi8 c2)), (.int (0 : Int32)), (.int (0 : Int32))] 3 c3 fm T117.heap n0 (Nat.le_trans Z0 Ex118.1) (B.ext Ex118) leb V117 (by first | decide | exact Nat.le_of_ble_eq_true rfl) (by first | decide | exact Nat.le_of_ble_eq_true rfl | rfl)) hZ (wq hw 118 rfl) (wq hw 38 rfl) (by decide) (by decide)) (g := (mkF m 20 #[vR ta, vI (3 : Int32), vI (4 : Int32), vR b111, vI (3 : Int32)] [(.int c3), (.int (3 : Int32)), (.ref b111)])) rfl (by rw [hml]; rfl) (argsL := [(.ref b111), (.int (3 : Int32)), (.int c3)]) (rest := []) (lenOf pd_9 rfl) rfl (by show 2 * 0 + _ ≤ _; exact Nat.le_of_eq rfl) (hb hby dto_20) (fun _ _ => ⟨rfl, rfl, (by decide : 1 + 0 ≤ _), (by decide : 8 + 0 ≤ _)⟩)
  dsimp only [Pt.U, Pt.locs, Pt.cells, Pt.slots] at X119 l119 y119 z119 st119 hQ119
  subst l119 y119 z119
  obtain ⟨rfl, Nq119, K119, V119⟩ := hQ119
  have N119 := Fr.app N117 Nq119
  have Ex120 : Ext h0 T119.heap := extKeep1 Ex118 K119 le111_
  refine Rch.st st119 ?_
  show Rch p e below T119 (mkF m 23 #[vR ta, vI (3 : Int32), vI (4 : Int32), vR b111, vI (3 : Int32)] []) _
  refine Rch.st (fun _ k => XS.iinc X119.here hx rfl (hb hby dto_23) rfl (l' := #[vR ta, vI (4 : Int32), vI (4 : Int32), vR b111, vI (3 : Int32)]) rfl k) ?_
  refine Rch.st (fun _ k => XS.iinc X119.here hx rfl (hb hby dto_26) rfl (l' := #[vR ta, vI (4 : Int32), vI (4 : Int32), vR b111, vI (4 : Int32)]) rfl k) ?_
  show Rch p e below T119 (mkF m 29 #[vR ta, vI (4 : Int32), vI (4 : Int32), vR b111, vI (4 : Int32)] []) _
  refine Rch.st (fun _ k => XS.goto X119.here hx rfl (pc0 := 29) (pc' := 8) rfl (hb hby dto_29) (by decide) (by decide) k) ?_
  refine Rch.st (fun _ k => XS.iload X119.here hx rfl (hb hby dto_8) rfl k) ?_
  show Rch p e below T119 (mkF m 10 #[vR ta, vI (4 : Int32), vI (4 : Int32), vR b111, vI (4 : Int32)] [(.int (4 : Int32))]) _
  refine Rch.st (fun _ k => XS.iloadN X119.here hx rfl (hb hby dto_10) rfl k) ?_
  refine Rch.st (fun _ k => XS.icmpYes X119.here hx rfl (pc0 := 11) (pc' := 32) rfl (hb hby dto_11) rfl (by decide : if_icmp.holds .ge (4 : Int32) (4 : Int32) = true) (by decide) (by decide) k) ?_
  show Rch p e below T119 (mkF m 32 #[vR ta, vI (4 : Int32), vI (4 : Int32), vR b111, vI (4 : Int32)] []) _
  refine Rch.st (fun _ k => XS.aloadN X119.here hx rfl (hb hby dto_32) rfl rfl k) ?_
  show Rch p e below T119 (mkF m 33 #[vR ta, vI (4 : Int32), vI (4 : Int32), vR b111, vI (4 : Int32)] [(.ref b111)]) _
  exact Rch.fin (Q := Q_toby4 Z ta ka c0 c1 c2 c3 fm h0 n0) X119 (v := some (.ref b111)) (fun h => by rw [Bd.returns] at h; cases h) (BodyLoose.notSynchronized Bd) (fun fs hr => retR X119 hx Bd.returns rfl rfl (hb hby dto_33) hr) ⟨b111, kb111, rfl, N119, Ex120, le111_, V119⟩ (by decide) (by decide)
theorem pn_cmp4 : plainFor (⟨"java/lang/StringUTF16", "compress", "([CI[BII)I"⟩ : MethodName) = true := by first | exact plainFor_of_name (by first | (simp [plainName, overriddenIn]; done) | decide +kernel) | exact Jvm.Free.JP.mathPlain rfl (by decide +kernel)
theorem ef_cmp4 (m : MethodId) (x0 : Addr) (x1 : Int32) (x2 : Addr) (x3 : Int32) (x4 : Int32) : entryFrame m #[(.ref x0), (.int x1), (.ref x2), (.int x3), (.int x4)] 7 = mkF m 0 #[vR x0, vI x1, vR x2, vI x3, vI x4, .unset, .unset] [] := by first | (simp [entryFrame, mkF, argsToLocals, Value.category]; done) | rfl
def Q_cmp4 (Z : State) (ta tb : Addr) (ka kb : ClassId) (c0 c1 c2 c3 : Int32) (h0 : Heap) (n0 : Nat) (v : Option Value) (h : Heap) (L : List Loc) : Prop := ∃ r, v = some (.int r) ∧ Fr n0 L ∧ Keep h0 h [tb] ∧ ((r = (0 : Int32) ∧ (255 : Int32) < c0) ∨ (r = (1 : Int32) ∧ (255 : Int32) < c1) ∨ (r = (2 : Int32) ∧ (255 : Int32) < c2) ∨ (r = (3 : Int32) ∧ (255 : Int32) < c3))
set_option maxRecDepth 65536 in
set_option maxHeartbeats 40000000 in
theorem rm_cmp4 (l : Launch) (Z : State) (a0 : Array Value) (hw : ∀ d ∈ tables_1, d.before a0 Z = true) (ws : List Jvm.Cond) (ta tb : Addr) (ka kb : ClassId) (c0 c1 c2 c3 : Int32) (h0 : Heap) (n0 : Nat) (Z0 : n0 ≤ h0.size) (hthis : n0 ≤ tb) (ne : ta ≠ tb) (M : Arv Z h0 ta ka .char (4 : Int32) [(.int c0), (.int c1), (.int c2), (.int c3)] (.int 0)) (D : Arv Z h0 tb kb .byte (4 : Int32) [(.int (0 : Int32)), (.int (0 : Int32)), (.int (0 : Int32)), (.int (0 : Int32))] (.int 0)) (hbig : (255 : Int32) < c0 ∨ (255 : Int32) < c1 ∨ (255 : Int32) < c2 ∨ (255 : Int32) < c3) :
    MetFree l (⟨"java/lang/StringUTF16", "compress", "([CI[BII)I"⟩ : MethodName) (head1 (Jvm.Cond.code (⟨"java/lang/StringUTF16", "compress", "([CI[BII)I"⟩ : MethodName) jdk_52_method_21_code 7 (some .int) :: ws) ({ frames := 0, cells := 0, slots := 0, locals := 0 } : Room)) (fun a U => a = #[(.ref ta), (.int (0 : Int32)), (.ref tb), (.int (0 : Int32)), (.int (4 : Int32))] ∧ Z.Warmed39 U.vm ∧ U.heap = h0) (fun _ _ _ _ _ => True) (fun _ U o U' => ∃ v L, o = .returned v ∧ Q_cmp4 Z ta tb ka kb c0 c1 c2 c3 h0 n0 v U'.heap L ∧ FrameEnd U o U' L ({ frames := 0, cells := 0, slots := 0, locals := 0 } : Room).cells ({ frames := 0, cells := 0, slots := 0, locals := 0 } : Room).slots) := by
  refine MetFree.of_bodySF pn_cmp4 hisR ?_
  intro p e s m args below meth c s₁ Bd hml0 hP hK
  obtain ⟨rfl, hZ, hh⟩ := hP
  have hx := Bd.exec
  have hby := Bd.bytes
  have hml : c.maxLocals = 7 := hml0
  have hown : s.vm.findClass "java/lang/StringUTF16" = some m.cls := findClass_of_methodNamed Bd.named
  have hnm := (name_of_methodNamed Bd.named Bd.method).1
  have X0 : Stand p l e ({ frames := 0, cells := 0, slots := 0, locals := 0 } : Room) s m #[(.ref ta), (.int (0 : Int32)), (.ref tb), (.int (0 : Int32)), (.int (4 : Int32))] below meth c s₁ [] 0 0 := Stand.of_body Bd
  have e0 : s₁.heap = h0 := by rw [← hh, Bd.state]; rfl
  have N0 := Fr.nil n0
  show Rch p e below s₁ (entryFrame m #[(.ref ta), (.int (0 : Int32)), (.ref tb), (.int (0 : Int32)), (.int (4 : Int32))] 7) (fun U o => ∃ v L, o = .returned v ∧ Q_cmp4 Z ta tb ka kb c0 c1 c2 c3 h0 n0 v U.heap L ∧ FrameEnd s o U L ({ frames := 0, cells := 0, slots := 0, locals := 0 } : Room).cells ({ frames := 0, cells := 0, slots := 0, locals := 0 } : Room).slots)
  refine Rch.cast (ef_cmp4 m ta (0 : Int32) tb (0 : Int32) (4 : Int32)) ?_
  show Rch p e below s₁ (mkF m 0 #[vR ta, vI (0 : Int32), vR tb, vI (0 : Int32), vI (4 : Int32), .unset, .unset] []) _
  refine Rch.st (fun _ k => XS.iconst X0.here hx rfl (hb hby dc5_0)  k) ?_
  refine Rch.st (fun _ k => XS.istore X0.here hx rfl (hb hby dc5_1) rfl (l' := #[vR ta, vI (0 : Int32), vR tb, vI (0 : Int32), vI (4 : Int32), vI (0 : Int32), .unset]) rfl k) ?_
  show Rch p e below s₁ (mkF m 3 #[vR ta, vI (0 : Int32), vR tb, vI (0 : Int32), vI (4 : Int32), vI (0 : Int32), .unset] []) _
  refine Rch.st (fun _ k => XS.iload X0.here hx rfl (hb hby dc5_3) rfl k) ?_
  refine Rch.st (fun _ k => XS.iload X0.here hx rfl (hb hby dc5_5) rfl k) ?_
  show Rch p e below s₁ (mkF m 7 #[vR ta, vI (0 : Int32), vR tb, vI (0 : Int32), vI (4 : Int32), vI (0 : Int32), .unset] [(.int (4 : Int32)), (.int (0 : Int32))]) _
  refine Rch.st (fun _ k => XS.icmpNo X0.here hx rfl (hb hby dc5_7) rfl (by decide : if_icmp.holds .ge (0 : Int32) (4 : Int32) = false) k) ?_
  refine Rch.st (fun _ k => XS.aloadN X0.here hx rfl (hb hby dc5_10) rfl rfl k) ?_
  show Rch p e below s₁ (mkF m 11 #[vR ta, vI (0 : Int32), vR tb, vI (0 : Int32), vI (4 : Int32), vI (0 : Int32), .unset] [(.ref ta)]) _
  refine Rch.st (fun _ k => XS.iloadN X0.here hx rfl (hb hby dc5_11) rfl k) ?_
  show Rch p e below s₁ (mkF m 12 #[vR ta, vI (0 : Int32), vR tb, vI (0 : Int32), vI (4 : Int32), vI (0 : Int32), .unset] [(.int (0 : Int32)), (.ref ta)]) _
  refine Rch.st (calA X0 hx hZ e0 M ⟨by decide, by decide⟩ (v := (.int c0)) rfl (g := (mkF m 12 #[vR ta, vI (0 : Int32), vR tb, vI (0 : Int32), vI (4 : Int32), vI (0 : Int32), .unset] [(.int (0 : Int32)), (.ref ta)])) rfl rfl (hb hby dc5_12)) ?_
  show Rch p e below s₁ (mkF m 13 #[vR ta, vI (0 : Int32), vR tb, vI (0 : Int32), vI (4 : Int32), vI (0 : Int32), .unset] [(.int c0)]) _
  refine Rch.st (fun _ k => XS.istore X0.here hx rfl (hb hby dc5_13) rfl (l' := #[vR ta, vI (0 : Int32), vR tb, vI (0 : Int32), vI (4 : Int32), vI (0 : Int32), vI c0]) rfl k) ?_
  refine Rch.st (fun _ k => XS.iload X0.here hx rfl (hb hby dc5_15) rfl k) ?_
  show Rch p e below s₁ (mkF m 17 #[vR ta, vI (0 : Int32), vR tb, vI (0 : Int32), vI (4 : Int32), vI (0 : Int32), vI c0] [(.int c0)]) _
  refine Rch.st (fun _ k => XS.sipush X0.here hx rfl (hb hby dc5_17)  k) ?_
  show Rch p e below s₁ (mkF m 20 #[vR ta, vI (0 : Int32), vR tb, vI (0 : Int32), vI (4 : Int32), vI (0 : Int32), vI c0] [(.int (255 : Int32)), (.int c0)]) _
  by_cases hbd0 : (255 : Int32) < c0
  · skip
    refine Rch.st (fun _ k => XS.icmpNo X0.here hx rfl (hb hby dc5_20) rfl (tlt hbd0).2.2.2 k) ?_
    refine Rch.st (fun _ k => XS.iload X0.here hx rfl (hb hby dc5_23) rfl k) ?_
    show Rch p e below s₁ (mkF m 25 #[vR ta, vI (0 : Int32), vR tb, vI (0 : Int32), vI (4 : Int32), vI (0 : Int32), vI c0] [(.int (0 : Int32))]) _
    exact Rch.fin (Q := Q_cmp4 Z ta tb ka kb c0 c1 c2 c3 h0 n0) X0 (v := some (.int (0 : Int32))) (fun h => by rw [Bd.returns] at h; cases h) (BodyLoose.notSynchronized Bd) (fun fs hr => retI X0 hx Bd.returns (hb hby dc5_25) hr) (by rw [e0]; exact ⟨(0 : Int32), rfl, N0, (Keep.refl _ _), Or.inl ⟨rfl, hbd0⟩⟩) (by decide) (by decide)
  · skip
    refine Rch.st (fun _ k => XS.icmpYes X0.here hx rfl (pc0 := 20) (pc' := 26) rfl (hb hby dc5_20) rfl (flt hbd0).2.2.2 (by decide) (by decide) k) ?_
    refine Rch.st (fun _ k => XS.aloadN X0.here hx rfl (hb hby dc5_26) rfl rfl k) ?_
    show Rch p e below s₁ (mkF m 27 #[vR ta, vI (0 : Int32), vR tb, vI (0 : Int32), vI (4 : Int32), vI (0 : Int32), vI c0] [(.ref tb)]) _
    refine Rch.st (fun _ k => XS.iloadN X0.here hx rfl (hb hby dc5_27) rfl k) ?_
    refine Rch.st (fun _ k => XS.iload X0.here hx rfl (hb hby dc5_28) rfl k) ?_
    show Rch p e below s₁ (mkF m 30 #[vR ta, vI (0 : Int32), vR tb, vI (0 : Int32), vI (4 : Int32), vI (0 : Int32), vI c0] [(.int c0), (.int (0 : Int32)), (.ref tb)]) _
    refine Rch.st (fun _ k => XT.i2b X0.here hx rfl (hb hby dc5_30) rfl k) ?_
    show Rch p e below s₁ (mkF m 31 #[vR ta, vI (0 : Int32), vR tb, vI (0 : Int32), vI (4 : Int32), vI (0 : Int32), vI c0] [(.int (c0.toInt8.toInt32)), (.int (0 : Int32)), (.ref tb)]) _
    obtain ⟨T121, h121, L121, sl121, X121, e121, W121, V121, N121, st121⟩ := stBv X0 hx hZ e0 D N0 hthis (j := (0 : Int32)) ⟨by decide, by decide⟩ 0 rfl (Nat.le_of_ble_eq_true rfl) (g := (mkF m 31 #[vR ta, vI (0 : Int32), vR tb, vI (0 : Int32), vI (4 : Int32), vI (0 : Int32), vI c0] [(.int (c0.toInt8.toInt32)), (.int (0 : Int32)), (.ref tb)])) rfl rfl (hb hby dc5_31)
    have D121 : Arv Z h121 tb kb .byte (4 : Int32) [(.int (nar .byte c0.toInt8.toInt32)), (.int (0 : Int32)), (.int (0 : Int32)), (.int (0 : Int32))] (.int 0) := V121
    have M121 := (M).other W121 ne
    have K121 : Keep h0 h121 [tb] := (Keep.refl _ _).wr W121 (Or.inl (List.mem_singleton.mpr rfl))
    refine Rch.st st121 ?_
    show Rch p e below T121 (mkF m 32 #[vR ta, vI (0 : Int32), vR tb, vI (0 : Int32), vI (4 : Int32), vI (0 : Int32), vI c0] []) _
    refine Rch.st (fun _ k => XS.iinc X121.here hx rfl (hb hby dc5_32) rfl (l' := #[vR ta, vI (1 : Int32), vR tb, vI (0 : Int32), vI (4 : Int32), vI (0 : Int32), vI c0]) rfl k) ?_
    refine Rch.st (fun _ k => XS.iinc X121.here hx rfl (hb hby dc5_35) rfl (l' := #[vR ta, vI (1 : Int32), vR tb, vI (1 : Int32), vI (4 : Int32), vI (0 : Int32), vI c0]) rfl k) ?_
    show Rch p e below T121 (mkF m 38 #[vR ta, vI (1 : Int32), vR tb, vI (1 : Int32), vI (4 : Int32), vI (0 : Int32), vI c0] []) _
    refine Rch.st (fun _ k => XS.iinc X121.here hx rfl (hb hby dc5_38) rfl (l' := #[vR ta, vI (1 : Int32), vR tb, vI (1 : Int32), vI (4 : Int32), vI (1 : Int32), vI c0]) rfl k) ?_
    refine Rch.st (fun _ k => XS.goto X121.here hx rfl (pc0 := 41) (pc' := 3) rfl (hb hby dc5_41) (by decide) (by decide) k) ?_
    show Rch p e below T121 (mkF m 3 #[vR ta, vI (1 : Int32), vR tb, vI (1 : Int32), vI (4 : Int32), vI (1 : Int32), vI c0] []) _
    refine Rch.st (fun _ k => XS.iload X121.here hx rfl (hb hby dc5_3) rfl k) ?_
    refine Rch.st (fun _ k => XS.iload X121.here hx rfl (hb hby dc5_5) rfl k) ?_
    show Rch p e below T121 (mkF m 7 #[vR ta, vI (1 : Int32), vR tb, vI (1 : Int32), vI (4 : Int32), vI (1 : Int32), vI c0] [(.int (4 : Int32)), (.int (1 : Int32))]) _
    refine Rch.st (fun _ k => XS.icmpNo X121.here hx rfl (hb hby dc5_7) rfl (by decide : if_icmp.holds .ge (1 : Int32) (4 : Int32) = false) k) ?_
    refine Rch.st (fun _ k => XS.aloadN X121.here hx rfl (hb hby dc5_10) rfl rfl k) ?_
    show Rch p e below T121 (mkF m 11 #[vR ta, vI (1 : Int32), vR tb, vI (1 : Int32), vI (4 : Int32), vI (1 : Int32), vI c0] [(.ref ta)]) _
    refine Rch.st (fun _ k => XS.iloadN X121.here hx rfl (hb hby dc5_11) rfl k) ?_
    show Rch p e below T121 (mkF m 12 #[vR ta, vI (1 : Int32), vR tb, vI (1 : Int32), vI (4 : Int32), vI (1 : Int32), vI c0] [(.int (1 : Int32)), (.ref ta)]) _
    refine Rch.st (calA X121 hx hZ e121 M121 ⟨by decide, by decide⟩ (v := (.int c1)) rfl (g := (mkF m 12 #[vR ta, vI (1 : Int32), vR tb, vI (1 : Int32), vI (4 : Int32), vI (1 : Int32), vI c0] [(.int (1 : Int32)), (.ref ta)])) rfl rfl (hb hby dc5_12)) ?_
    show Rch p e below T121 (mkF m 13 #[vR ta, vI (1 : Int32), vR tb, vI (1 : Int32), vI (4 : Int32), vI (1 : Int32), vI c0] [(.int c1)]) _
    refine Rch.st (fun _ k => XS.istore X121.here hx rfl (hb hby dc5_13) rfl (l' := #[vR ta, vI (1 : Int32), vR tb, vI (1 : Int32), vI (4 : Int32), vI (1 : Int32), vI c1]) rfl k) ?_
    refine Rch.st (fun _ k => XS.iload X121.here hx rfl (hb hby dc5_15) rfl k) ?_
    show Rch p e below T121 (mkF m 17 #[vR ta, vI (1 : Int32), vR tb, vI (1 : Int32), vI (4 : Int32), vI (1 : Int32), vI c1] [(.int c1)]) _
    refine Rch.st (fun _ k => XS.sipush X121.here hx rfl (hb hby dc5_17)  k) ?_
    show Rch p e below T121 (mkF m 20 #[vR ta, vI (1 : Int32), vR tb, vI (1 : Int32), vI (4 : Int32), vI (1 : Int32), vI c1] [(.int (255 : Int32)), (.int c1)]) _
    by_cases hbd1 : (255 : Int32) < c1
    · skip
      refine Rch.st (fun _ k => XS.icmpNo X121.here hx rfl (hb hby dc5_20) rfl (tlt hbd1).2.2.2 k) ?_
      refine Rch.st (fun _ k => XS.iload X121.here hx rfl (hb hby dc5_23) rfl k) ?_
      show Rch p e below T121 (mkF m 25 #[vR ta, vI (1 : Int32), vR tb, vI (1 : Int32), vI (4 : Int32), vI (1 : Int32), vI c1] [(.int (1 : Int32))]) _
      exact Rch.fin (Q := Q_cmp4 Z ta tb ka kb c0 c1 c2 c3 h0 n0) X121 (v := some (.int (1 : Int32))) (fun h => by rw [Bd.returns] at h; cases h) (BodyLoose.notSynchronized Bd) (fun fs hr => retI X121 hx Bd.returns (hb hby dc5_25) hr) (by rw [e121]; exact ⟨(1 : Int32), rfl, N121, K121, Or.inr (Or.inl ⟨rfl, hbd1⟩)⟩) (by decide) (by decide)
    · skip
      refine Rch.st (fun _ k => XS.icmpYes X121.here hx rfl (pc0 := 20) (pc' := 26) rfl (hb hby dc5_20) rfl (flt hbd1).2.2.2 (by decide) (by decide) k) ?_
      refine Rch.st (fun _ k => XS.aloadN X121.here hx rfl (hb hby dc5_26) rfl rfl k) ?_
      show Rch p e below T121 (mkF m 27 #[vR ta, vI (1 : Int32), vR tb, vI (1 : Int32), vI (4 : Int32), vI (1 : Int32), vI c1] [(.ref tb)]) _
      refine Rch.st (fun _ k => XS.iloadN X121.here hx rfl (hb hby dc5_27) rfl k) ?_
      refine Rch.st (fun _ k => XS.iload X121.here hx rfl (hb hby dc5_28) rfl k) ?_
      show Rch p e below T121 (mkF m 30 #[vR ta, vI (1 : Int32), vR tb, vI (1 : Int32), vI (4 : Int32), vI (1 : Int32), vI c1] [(.int c1), (.int (1 : Int32)), (.ref tb)]) _
      refine Rch.st (fun _ k => XT.i2b X121.here hx rfl (hb hby dc5_30) rfl k) ?_
      show Rch p e below T121 (mkF m 31 #[vR ta, vI (1 : Int32), vR tb, vI (1 : Int32), vI (4 : Int32), vI (1 : Int32), vI c1] [(.int (c1.toInt8.toInt32)), (.int (1 : Int32)), (.ref tb)]) _
      obtain ⟨T122, h122, L122, sl122, X122, e122, W122, V122, N122, st122⟩ := stBv X121 hx hZ e121 D121 N121 hthis (j := (1 : Int32)) ⟨by decide, by decide⟩ 1 rfl (Nat.le_of_ble_eq_true rfl) (g := (mkF m 31 #[vR ta, vI (1 : Int32), vR tb, vI (1 : Int32), vI (4 : Int32), vI (1 : Int32), vI c1] [(.int (c1.toInt8.toInt32)), (.int (1 : Int32)), (.ref tb)])) rfl rfl (hb hby dc5_31)
      have D122 : Arv Z h122 tb kb .byte (4 : Int32) [(.int (nar .byte c0.toInt8.toInt32)), (.int (nar .byte c1.toInt8.toInt32)), (.int (0 : Int32)), (.int (0 : Int32))] (.int 0) := V122
      have M122 := (M121).other W122 ne
      have K122 : Keep h0 h122 [tb] := K121.wr W122 (Or.inl (List.mem_singleton.mpr rfl))
      refine Rch.st st122 ?_
      show Rch p e below T122 (mkF m 32 #[vR ta, vI (1 : Int32), vR tb, vI (1 : Int32), vI (4 : Int32), vI (1 : Int32), vI c1] []) _
      refine Rch.st (fun _ k => XS.iinc X122.here hx rfl (hb hby dc5_32) rfl (l' := #[vR ta, vI (2 : Int32), vR tb, vI (1 : Int32), vI (4 : Int32), vI (1 : Int32), vI c1]) rfl k) ?_
      refine Rch.st (fun _ k => XS.iinc X122.here hx rfl (hb hby dc5_35) rfl (l' := #[vR ta, vI (2 : Int32), vR tb, vI (2 : Int32), vI (4 : Int32), vI (1 : Int32), vI c1]) rfl k) ?_
      show Rch p e below T122 (mkF m 38 #[vR ta, vI (2 : Int32), vR tb, vI (2 : Int32), vI (4 : Int32), vI (1 : Int32), vI c1] []) _
      refine Rch.st (fun _ k => XS.iinc X122.here hx rfl (hb hby dc5_38) rfl (l' := #[vR ta, vI (2 : Int32), vR tb, vI (2 : Int32), vI (4 : Int32), vI (2 : Int32), vI c1]) rfl k) ?_
      refine Rch.st (fun _ k => XS.goto X122.here hx rfl (pc0 := 41) (pc' := 3) rfl (hb hby dc5_41) (by decide) (by decide) k) ?_
      show Rch p e below T122 (mkF m 3 #[vR ta, vI (2 : Int32), vR tb, vI (2 : Int32), vI (4 : Int32), vI (2 : Int32), vI c1] []) _
      refine Rch.st (fun _ k => XS.iload X122.here hx rfl (hb hby dc5_3) rfl k) ?_
      refine Rch.st (fun _ k => XS.iload X122.here hx rfl (hb hby dc5_5) rfl k) ?_
      show Rch p e below T122 (mkF m 7 #[vR ta, vI (2 : Int32), vR tb, vI (2 : Int32), vI (4 : Int32), vI (2 : Int32), vI c1] [(.int (4 : Int32)), (.int (2 : Int32))]) _
      refine Rch.st (fun _ k => XS.icmpNo X122.here hx rfl (hb hby dc5_7) rfl (by decide : if_icmp.holds .ge (2 : Int32) (4 : Int32) = false) k) ?_
      refine Rch.st (fun _ k => XS.aloadN X122.here hx rfl (hb hby dc5_10) rfl rfl k) ?_
      show Rch p e below T122 (mkF m 11 #[vR ta, vI (2 : Int32), vR tb, vI (2 : Int32), vI (4 : Int32), vI (2 : Int32), vI c1] [(.ref ta)]) _
      refine Rch.st (fun _ k => XS.iloadN X122.here hx rfl (hb hby dc5_11) rfl k) ?_
      show Rch p e below T122 (mkF m 12 #[vR ta, vI (2 : Int32), vR tb, vI (2 : Int32), vI (4 : Int32), vI (2 : Int32), vI c1] [(.int (2 : Int32)), (.ref ta)]) _
      refine Rch.st (calA X122 hx hZ e122 M122 ⟨by decide, by decide⟩ (v := (.int c2)) rfl (g := (mkF m 12 #[vR ta, vI (2 : Int32), vR tb, vI (2 : Int32), vI (4 : Int32), vI (2 : Int32), vI c1] [(.int (2 : Int32)), (.ref ta)])) rfl rfl (hb hby dc5_12)) ?_
      show Rch p e below T122 (mkF m 13 #[vR ta, vI (2 : Int32), vR tb, vI (2 : Int32), vI (4 : Int32), vI (2 : Int32), vI c1] [(.int c2)]) _
      refine Rch.st (fun _ k => XS.istore X122.here hx rfl (hb hby dc5_13) rfl (l' := #[vR ta, vI (2 : Int32), vR tb, vI (2 : Int32), vI (4 : Int32), vI (2 : Int32), vI c2]) rfl k) ?_
      refine Rch.st (fun _ k => XS.iload X122.here hx rfl (hb hby dc5_15) rfl k) ?_
      show Rch p e below T122 (mkF m 17 #[vR ta, vI (2 : Int32), vR tb, vI (2 : Int32), vI (4 : Int32), vI (2 : Int32), vI c2] [(.int c2)]) _
      refine Rch.st (fun _ k => XS.sipush X122.here hx rfl (hb hby dc5_17)  k) ?_
      show Rch p e below T122 (mkF m 20 #[vR ta, vI (2 : Int32), vR tb, vI (2 : Int32), vI (4 : Int32), vI (2 : Int32), vI c2] [(.int (255 : Int32)), (.int c2)]) _
      by_cases hbd2 : (255 : Int32) < c2
      · skip
        refine Rch.st (fun _ k => XS.icmpNo X122.here hx rfl (hb hby dc5_20) rfl (tlt hbd2).2.2.2 k) ?_
        refine Rch.st (fun _ k => XS.iload X122.here hx rfl (hb hby dc5_23) rfl k) ?_
        show Rch p e below T122 (mkF m 25 #[vR ta, vI (2 : Int32), vR tb, vI (2 : Int32), vI (4 : Int32), vI (2 : Int32), vI c2] [(.int (2 : Int32))]) _
        exact Rch.fin (Q := Q_cmp4 Z ta tb ka kb c0 c1 c2 c3 h0 n0) X122 (v := some (.int (2 : Int32))) (fun h => by rw [Bd.returns] at h; cases h) (BodyLoose.notSynchronized Bd) (fun fs hr => retI X122 hx Bd.returns (hb hby dc5_25) hr) (by rw [e122]; exact ⟨(2 : Int32), rfl, N122, K122, Or.inr (Or.inr (Or.inl ⟨rfl, hbd2⟩))⟩) (by decide) (by decide)
      · skip
        refine Rch.st (fun _ k => XS.icmpYes X122.here hx rfl (pc0 := 20) (pc' := 26) rfl (hb hby dc5_20) rfl (flt hbd2).2.2.2 (by decide) (by decide) k) ?_
        refine Rch.st (fun _ k => XS.aloadN X122.here hx rfl (hb hby dc5_26) rfl rfl k) ?_
        show Rch p e below T122 (mkF m 27 #[vR ta, vI (2 : Int32), vR tb, vI (2 : Int32), vI (4 : Int32), vI (2 : Int32), vI c2] [(.ref tb)]) _
        refine Rch.st (fun _ k => XS.iloadN X122.here hx rfl (hb hby dc5_27) rfl k) ?_
        refine Rch.st (fun _ k => XS.iload X122.here hx rfl (hb hby dc5_28) rfl k) ?_
        show Rch p e below T122 (mkF m 30 #[vR ta, vI (2 : Int32), vR tb, vI (2 : Int32), vI (4 : Int32), vI (2 : Int32), vI c2] [(.int c2), (.int (2 : Int32)), (.ref tb)]) _
        refine Rch.st (fun _ k => XT.i2b X122.here hx rfl (hb hby dc5_30) rfl k) ?_
        show Rch p e below T122 (mkF m 31 #[vR ta, vI (2 : Int32), vR tb, vI (2 : Int32), vI (4 : Int32), vI (2 : Int32), vI c2] [(.int (c2.toInt8.toInt32)), (.int (2 : Int32)), (.ref tb)]) _
        obtain ⟨T123, h123, L123, sl123, X123, e123, W123, V123, N123, st123⟩ := stBv X122 hx hZ e122 D122 N122 hthis (j := (2 : Int32)) ⟨by decide, by decide⟩ 2 rfl (Nat.le_of_ble_eq_true rfl) (g := (mkF m 31 #[vR ta, vI (2 : Int32), vR tb, vI (2 : Int32), vI (4 : Int32), vI (2 : Int32), vI c2] [(.int (c2.toInt8.toInt32)), (.int (2 : Int32)), (.ref tb)])) rfl rfl (hb hby dc5_31)
        have D123 : Arv Z h123 tb kb .byte (4 : Int32) [(.int (nar .byte c0.toInt8.toInt32)), (.int (nar .byte c1.toInt8.toInt32)), (.int (nar .byte c2.toInt8.toInt32)), (.int (0 : Int32))] (.int 0) := V123
        have M123 := (M122).other W123 ne
        have K123 : Keep h0 h123 [tb] := K122.wr W123 (Or.inl (List.mem_singleton.mpr rfl))
        refine Rch.st st123 ?_
        show Rch p e below T123 (mkF m 32 #[vR ta, vI (2 : Int32), vR tb, vI (2 : Int32), vI (4 : Int32), vI (2 : Int32), vI c2] []) _
        refine Rch.st (fun _ k => XS.iinc X123.here hx rfl (hb hby dc5_32) rfl (l' := #[vR ta, vI (3 : Int32), vR tb, vI (2 : Int32), vI (4 : Int32), vI (2 : Int32), vI c2]) rfl k) ?_
        refine Rch.st (fun _ k => XS.iinc X123.here hx rfl (hb hby dc5_35) rfl (l' := #[vR ta, vI (3 : Int32), vR tb, vI (3 : Int32), vI (4 : Int32), vI (2 : Int32), vI c2]) rfl k) ?_
        show Rch p e below T123 (mkF m 38 #[vR ta, vI (3 : Int32), vR tb, vI (3 : Int32), vI (4 : Int32), vI (2 : Int32), vI c2] []) _
        refine Rch.st (fun _ k => XS.iinc X123.here hx rfl (hb hby dc5_38) rfl (l' := #[vR ta, vI (3 : Int32), vR tb, vI (3 : Int32), vI (4 : Int32), vI (3 : Int32), vI c2]) rfl k) ?_
        refine Rch.st (fun _ k => XS.goto X123.here hx rfl (pc0 := 41) (pc' := 3) rfl (hb hby dc5_41) (by decide) (by decide) k) ?_
        show Rch p e below T123 (mkF m 3 #[vR ta, vI (3 : Int32), vR tb, vI (3 : Int32), vI (4 : Int32), vI (3 : Int32), vI c2] []) _
        refine Rch.st (fun _ k => XS.iload X123.here hx rfl (hb hby dc5_3) rfl k) ?_
        refine Rch.st (fun _ k => XS.iload X123.here hx rfl (hb hby dc5_5) rfl k) ?_
        show Rch p e below T123 (mkF m 7 #[vR ta, vI (3 : Int32), vR tb, vI (3 : Int32), vI (4 : Int32), vI (3 : Int32), vI c2] [(.int (4 : Int32)), (.int (3 : Int32))]) _
        refine Rch.st (fun _ k => XS.icmpNo X123.here hx rfl (hb hby dc5_7) rfl (by decide : if_icmp.holds .ge (3 : Int32) (4 : Int32) = false) k) ?_
        refine Rch.st (fun _ k => XS.aloadN X123.here hx rfl (hb hby dc5_10) rfl rfl k) ?_
        show Rch p e below T123 (mkF m 11 #[vR ta, vI (3 : Int32), vR tb, vI (3 : Int32), vI (4 : Int32), vI (3 : Int32), vI c2] [(.ref ta)]) _
        refine Rch.st (fun _ k => XS.iloadN X123.here hx rfl (hb hby dc5_11) rfl k) ?_
        show Rch p e below T123 (mkF m 12 #[vR ta, vI (3 : Int32), vR tb, vI (3 : Int32), vI (4 : Int32), vI (3 : Int32), vI c2] [(.int (3 : Int32)), (.ref ta)]) _
        refine Rch.st (calA X123 hx hZ e123 M123 ⟨by decide, by decide⟩ (v := (.int c3)) rfl (g := (mkF m 12 #[vR ta, vI (3 : Int32), vR tb, vI (3 : Int32), vI (4 : Int32), vI (3 : Int32), vI c2] [(.int (3 : Int32)), (.ref ta)])) rfl rfl (hb hby dc5_12)) ?_
        show Rch p e below T123 (mkF m 13 #[vR ta, vI (3 : Int32), vR tb, vI (3 : Int32), vI (4 : Int32), vI (3 : Int32), vI c2] [(.int c3)]) _
        refine Rch.st (fun _ k => XS.istore X123.here hx rfl (hb hby dc5_13) rfl (l' := #[vR ta, vI (3 : Int32), vR tb, vI (3 : Int32), vI (4 : Int32), vI (3 : Int32), vI c3]) rfl k) ?_
        refine Rch.st (fun _ k => XS.iload X123.here hx rfl (hb hby dc5_15) rfl k) ?_
        show Rch p e below T123 (mkF m 17 #[vR ta, vI (3 : Int32), vR tb, vI (3 : Int32), vI (4 : Int32), vI (3 : Int32), vI c3] [(.int c3)]) _
        refine Rch.st (fun _ k => XS.sipush X123.here hx rfl (hb hby dc5_17)  k) ?_
        show Rch p e below T123 (mkF m 20 #[vR ta, vI (3 : Int32), vR tb, vI (3 : Int32), vI (4 : Int32), vI (3 : Int32), vI c3] [(.int (255 : Int32)), (.int c3)]) _
        by_cases hbd3 : (255 : Int32) < c3
        · skip
          refine Rch.st (fun _ k => XS.icmpNo X123.here hx rfl (hb hby dc5_20) rfl (tlt hbd3).2.2.2 k) ?_
          refine Rch.st (fun _ k => XS.iload X123.here hx rfl (hb hby dc5_23) rfl k) ?_
          show Rch p e below T123 (mkF m 25 #[vR ta, vI (3 : Int32), vR tb, vI (3 : Int32), vI (4 : Int32), vI (3 : Int32), vI c3] [(.int (3 : Int32))]) _
          exact Rch.fin (Q := Q_cmp4 Z ta tb ka kb c0 c1 c2 c3 h0 n0) X123 (v := some (.int (3 : Int32))) (fun h => by rw [Bd.returns] at h; cases h) (BodyLoose.notSynchronized Bd) (fun fs hr => retI X123 hx Bd.returns (hb hby dc5_25) hr) (by rw [e123]; exact ⟨(3 : Int32), rfl, N123, K123, Or.inr (Or.inr (Or.inr (⟨rfl, hbd3⟩)))⟩) (by decide) (by decide)
        · skip
          refine Rch.st (fun _ k => XS.icmpYes X123.here hx rfl (pc0 := 20) (pc' := 26) rfl (hb hby dc5_20) rfl (flt hbd3).2.2.2 (by decide) (by decide) k) ?_
          refine Rch.st (fun _ k => XS.aloadN X123.here hx rfl (hb hby dc5_26) rfl rfl k) ?_
          show Rch p e below T123 (mkF m 27 #[vR ta, vI (3 : Int32), vR tb, vI (3 : Int32), vI (4 : Int32), vI (3 : Int32), vI c3] [(.ref tb)]) _
          refine Rch.st (fun _ k => XS.iloadN X123.here hx rfl (hb hby dc5_27) rfl k) ?_
          refine Rch.st (fun _ k => XS.iload X123.here hx rfl (hb hby dc5_28) rfl k) ?_
          show Rch p e below T123 (mkF m 30 #[vR ta, vI (3 : Int32), vR tb, vI (3 : Int32), vI (4 : Int32), vI (3 : Int32), vI c3] [(.int c3), (.int (3 : Int32)), (.ref tb)]) _
          refine Rch.st (fun _ k => XT.i2b X123.here hx rfl (hb hby dc5_30) rfl k) ?_
          show Rch p e below T123 (mkF m 31 #[vR ta, vI (3 : Int32), vR tb, vI (3 : Int32), vI (4 : Int32), vI (3 : Int32), vI c3] [(.int (c3.toInt8.toInt32)), (.int (3 : Int32)), (.ref tb)]) _
          obtain ⟨T124, h124, L124, sl124, X124, e124, W124, V124, N124, st124⟩ := stBv X123 hx hZ e123 D123 N123 hthis (j := (3 : Int32)) ⟨by decide, by decide⟩ 3 rfl (Nat.le_of_ble_eq_true rfl) (g := (mkF m 31 #[vR ta, vI (3 : Int32), vR tb, vI (3 : Int32), vI (4 : Int32), vI (3 : Int32), vI c3] [(.int (c3.toInt8.toInt32)), (.int (3 : Int32)), (.ref tb)])) rfl rfl (hb hby dc5_31)
          have D124 : Arv Z h124 tb kb .byte (4 : Int32) [(.int (nar .byte c0.toInt8.toInt32)), (.int (nar .byte c1.toInt8.toInt32)), (.int (nar .byte c2.toInt8.toInt32)), (.int (nar .byte c3.toInt8.toInt32))] (.int 0) := V124
          have M124 := (M123).other W124 ne
          have K124 : Keep h0 h124 [tb] := K123.wr W124 (Or.inl (List.mem_singleton.mpr rfl))
          refine Rch.st st124 ?_
          show Rch p e below T124 (mkF m 32 #[vR ta, vI (3 : Int32), vR tb, vI (3 : Int32), vI (4 : Int32), vI (3 : Int32), vI c3] []) _
          refine Rch.st (fun _ k => XS.iinc X124.here hx rfl (hb hby dc5_32) rfl (l' := #[vR ta, vI (4 : Int32), vR tb, vI (3 : Int32), vI (4 : Int32), vI (3 : Int32), vI c3]) rfl k) ?_
          refine Rch.st (fun _ k => XS.iinc X124.here hx rfl (hb hby dc5_35) rfl (l' := #[vR ta, vI (4 : Int32), vR tb, vI (4 : Int32), vI (4 : Int32), vI (3 : Int32), vI c3]) rfl k) ?_
          show Rch p e below T124 (mkF m 38 #[vR ta, vI (4 : Int32), vR tb, vI (4 : Int32), vI (4 : Int32), vI (3 : Int32), vI c3] []) _
          refine Rch.st (fun _ k => XS.iinc X124.here hx rfl (hb hby dc5_38) rfl (l' := #[vR ta, vI (4 : Int32), vR tb, vI (4 : Int32), vI (4 : Int32), vI (4 : Int32), vI c3]) rfl k) ?_
          refine Rch.st (fun _ k => XS.goto X124.here hx rfl (pc0 := 41) (pc' := 3) rfl (hb hby dc5_41) (by decide) (by decide) k) ?_
          show Rch p e below T124 (mkF m 3 #[vR ta, vI (4 : Int32), vR tb, vI (4 : Int32), vI (4 : Int32), vI (4 : Int32), vI c3] []) _
          refine Rch.st (fun _ k => XS.iload X124.here hx rfl (hb hby dc5_3) rfl k) ?_
          refine Rch.st (fun _ k => XS.iload X124.here hx rfl (hb hby dc5_5) rfl k) ?_
          show Rch p e below T124 (mkF m 7 #[vR ta, vI (4 : Int32), vR tb, vI (4 : Int32), vI (4 : Int32), vI (4 : Int32), vI c3] [(.int (4 : Int32)), (.int (4 : Int32))]) _
          exfalso
          rcases hbig with q | q | q | q
          · exact hbd0 q
          · exact hbd1 q
          · exact hbd2 q
          · exact hbd3 q
theorem pn_cthr1 : plainFor (⟨"java/lang/StringUTF16", "compress", "([CII)[B"⟩ : MethodName) = true := by first | exact plainFor_of_name (by first | (simp [plainName, overriddenIn]; done) | decide +kernel) | exact Jvm.Free.JP.mathPlain rfl (by decide +kernel)
theorem ef_cthr1 (m : MethodId) (x0 : Addr) (x1 : Int32) (x2 : Int32) : entryFrame m #[(.ref x0), (.int x1), (.int x2)] 6 = mkF m 0 #[vR x0, vI x1, vI x2, .unset, .unset, .unset] [] := by first | (simp [entryFrame, mkF, argsToLocals, Value.category]; done) | rfl
def Q_cthr1 (Z : State) (ta : Addr) (ka : ClassId) (c0 : Int32) (fm : Value) (h0 : Heap) (n0 : Nat) (v : Option Value) (h : Heap) (L : List Loc) : Prop := ∃ b k, v = some (.ref b) ∧ Fr n0 L ∧ Ext h0 h ∧ h0.size ≤ b ∧ Arv Z h b k .byte (2 : Int32) (StrChars.Road.wideBytes [c0]) (.int 0)
set_option maxRecDepth 65536 in
set_option maxHeartbeats 40000000 in
theorem rm_cthr1 (l : Launch) (Z : State) (a0 : Array Value) (hw : ∀ d ∈ tables_1, d.before a0 Z = true) (ws : List Jvm.Cond) (ta : Addr) (ka : ClassId) (c0 : Int32) (fm : Value) (h0 : Heap) (n0 : Nat) (Z0 : n0 ≤ h0.size) (B : Bg Z h0 fm) (M : Arv Z h0 ta ka .char (1 : Int32) [(.int c0)] (.int 0)) (hbd : ∀ c ∈ ([c0] : List Int32), ¬ c < 0 ∧ ¬ (65535 : Int32) < c) (hbig : (255 : Int32) < c0) :
    MetFree l (⟨"java/lang/StringUTF16", "compress", "([CII)[B"⟩ : MethodName) (head1 (Jvm.Cond.code (⟨"java/lang/StringUTF16", "compress", "([CII)[B"⟩ : MethodName) jdk_52_method_16_code 6 (some (.array .byte)) :: ws) ({ frames := 3, cells := 2, slots := 12, locals := 40 } : Room)) (fun a U => a = #[(.ref ta), (.int (0 : Int32)), (.int (1 : Int32))] ∧ Z.Warmed39 U.vm ∧ U.heap = h0) (fun _ _ _ _ _ => True) (fun _ U o U' => ∃ v L, o = .returned v ∧ Q_cthr1 Z ta ka c0 fm h0 n0 v U'.heap L ∧ FrameEnd U o U' L ({ frames := 3, cells := 2, slots := 12, locals := 40 } : Room).cells ({ frames := 3, cells := 2, slots := 12, locals := 40 } : Room).slots) := by
  refine MetFree.of_bodySF pn_cthr1 hisR ?_
  intro p e s m args below meth c s₁ Bd hml0 hP hK
  obtain ⟨rfl, hZ, hh⟩ := hP
  have hx := Bd.exec
  have hby := Bd.bytes
  have hml : c.maxLocals = 6 := hml0
  have hown : s.vm.findClass "java/lang/StringUTF16" = some m.cls := findClass_of_methodNamed Bd.named
  have hnm := (name_of_methodNamed Bd.named Bd.method).1
  have X0 : Stand p l e ({ frames := 3, cells := 2, slots := 12, locals := 40 } : Room) s m #[(.ref ta), (.int (0 : Int32)), (.int (1 : Int32))] below meth c s₁ [] 0 0 := Stand.of_body Bd
  have e0 : s₁.heap = h0 := by rw [← hh, Bd.state]; rfl
  have N0 := Fr.nil n0
  show Rch p e below s₁ (entryFrame m #[(.ref ta), (.int (0 : Int32)), (.int (1 : Int32))] 6) (fun U o => ∃ v L, o = .returned v ∧ Q_cthr1 Z ta ka c0 fm h0 n0 v U.heap L ∧ FrameEnd s o U L ({ frames := 3, cells := 2, slots := 12, locals := 40 } : Room).cells ({ frames := 3, cells := 2, slots := 12, locals := 40 } : Room).slots)
  refine Rch.cast (ef_cthr1 m ta (0 : Int32) (1 : Int32)) ?_
  show Rch p e below s₁ (mkF m 0 #[vR ta, vI (0 : Int32), vI (1 : Int32), .unset, .unset, .unset] []) _
  refine Rch.st (fun _ k => XS.iloadN X0.here hx rfl (hb hby dc3_0) rfl k) ?_
  show Rch p e below s₁ (mkF m 1 #[vR ta, vI (0 : Int32), vI (1 : Int32), .unset, .unset, .unset] [(.int (1 : Int32))]) _
  obtain ⟨T41, h41, k41, X41, e41, E41, A41, st41⟩ := newP X0 hx hZ (wq hw 15 rfl) e0 (g := (mkF m 1 #[vR ta, vI (0 : Int32), vI (1 : Int32), .unset, .unset, .unset] [(.int (1 : Int32))])) rfl (hb hby dc3_1) rfl (by decide : ¬ ((1 : Int32) < (0 : Int32))) (cap := 1) (by decide : ((1 : Int32)).toNatClampNeg ≤ 1) (by decide) (by decide) (by decide)
  obtain ⟨a41, g41⟩ : ∃ z, z = h0.size := ⟨_, rfl⟩
  rw [← g41] at A41 st41
  have Ex42 : Ext h0 h41 := E41
  have le43 : h0.size ≤ a41 := Nat.le_of_eq g41.symm
  refine Rch.st st41 ?_
  show Rch p e below T41 (mkF m 3 #[vR ta, vI (0 : Int32), vI (1 : Int32), .unset, .unset, .unset] [(.ref a41)]) _
  have V41 : Arv Z h41 a41 k41 .byte (1 : Int32) [(.int (0 : Int32))] (.int (0 : Int32)) := (Arv.new A41 (by decide : ¬ ((1 : Int32) < (0 : Int32)))).pad (pad_rep [] (.int (0 : Int32)) 1)
  refine Rch.st (fun _ k => XS.astoreN X41.here hx rfl (hb hby dc3_3) rfl rfl (l' := #[vR ta, vI (0 : Int32), vI (1 : Int32), vR a41, .unset, .unset]) rfl k) ?_
  refine Rch.st (fun _ k => XS.aloadN X41.here hx rfl (hb hby dc3_4) rfl rfl k) ?_
  show Rch p e below T41 (mkF m 5 #[vR ta, vI (0 : Int32), vI (1 : Int32), vR a41, .unset, .unset] [(.ref ta)]) _
  refine Rch.st (fun _ k => XS.iloadN X41.here hx rfl (hb hby dc3_5) rfl k) ?_
  refine Rch.st (fun _ k => XS.aloadN X41.here hx rfl (hb hby dc3_6) rfl rfl k) ?_
  show Rch p e below T41 (mkF m 7 #[vR ta, vI (0 : Int32), vI (1 : Int32), vR a41, .unset, .unset] [(.ref a41), (.int (0 : Int32)), (.ref ta)]) _
  refine Rch.st (fun _ k => XS.iconst X41.here hx rfl (hb hby dc3_7)  k) ?_
  refine Rch.st (fun _ k => XS.iloadN X41.here hx rfl (hb hby dc3_8) rfl k) ?_
  show Rch p e below T41 (mkF m 9 #[vR ta, vI (0 : Int32), vI (1 : Int32), vR a41, .unset, .unset] [(.int (1 : Int32)), (.int (0 : Int32)), (.ref a41), (.int (0 : Int32)), (.ref ta)]) _
  have ned : ta ≠ a41 := Nat.ne_of_lt (Nat.lt_of_lt_of_le M.lt le43)
  obtain ⟨_, _, ⟨T44, L44, k44, n44⟩, -, X44, ⟨Lc44, hQ44, l44, y44, z44⟩, st44⟩ := Jvm.LawKit.callS X41 hx (y := (⟨"java/lang/StringUTF16", "compress", "([CI[BII)I"⟩ : MethodName)) hown (mvT hZ (wq hw 40 rfl)) (mvT hZ (wq hw 41 rfl)) (mvT hZ (wq hw 38 rfl)) (mvT hZ (wq hw 42 rfl)) (by decide) (backOf (W := 0) (rm_cmp1 l Z a0 hw [] ta a41 ka k41 c0 h41 n0 (Nat.le_trans Z0 Ex42.1) (Nat.le_trans Z0 le43) ned (M.ext Ex42) V41 hbig) hZ (wq hw 42 rfl) (wq hw 38 rfl) (by decide) (by decide)) (g := (mkF m 9 #[vR ta, vI (0 : Int32), vI (1 : Int32), vR a41, .unset, .unset] [(.int (1 : Int32)), (.int (0 : Int32)), (.ref a41), (.int (0 : Int32)), (.ref ta)])) rfl (by rw [hml]; rfl) (argsL := [(.ref ta), (.int (0 : Int32)), (.ref a41), (.int (0 : Int32)), (.int (1 : Int32))]) (rest := []) (lenOf pd_10 rfl) rfl (by show 2 * 0 + _ ≤ _; exact Nat.le_of_eq rfl) (hb hby dc3_9) (fun _ _ => ⟨rfl, e41, (by decide : 1 + 0 ≤ _), (by decide : 1 + 0 ≤ _)⟩)
  dsimp only [Pt.U, Pt.locs, Pt.cells, Pt.slots] at X44 l44 y44 z44 st44 hQ44
  subst l44 y44 z44
  obtain ⟨r44, rfl, Nq44, K44, hr44⟩ := hQ44
  have N44 := Fr.app N0 Nq44
  have Ex45 : Ext h0 T44.heap := extKeep1 Ex42 K44 le43
  refine Rch.st st44 ?_
  show Rch p e below T44 (mkF m 12 #[vR ta, vI (0 : Int32), vI (1 : Int32), vR a41, .unset, .unset] [(.int r44)]) _
  obtain ⟨rfl, hc⟩ := hr44
  show Rch p e below T44 (mkF m 12 #[vR ta, vI (0 : Int32), vI (1 : Int32), vR a41, .unset, .unset] [(.int (0 : Int32))]) _
  refine Rch.st (fun _ k => XS.istore X44.here hx rfl (hb hby dc3_12) rfl (l' := #[vR ta, vI (0 : Int32), vI (1 : Int32), vR a41, vI (0 : Int32), .unset]) rfl k) ?_
  refine Rch.st (fun _ k => XS.iload X44.here hx rfl (hb hby dc3_14) rfl k) ?_
  show Rch p e below T44 (mkF m 16 #[vR ta, vI (0 : Int32), vI (1 : Int32), vR a41, vI (0 : Int32), .unset] [(.int (0 : Int32))]) _
  refine Rch.st (fun _ k => XS.iloadN X44.here hx rfl (hb hby dc3_16) rfl k) ?_
  refine Rch.st (fun _ k => XS.icmpNo X44.here hx rfl (hb hby dc3_17) rfl (by decide : if_icmp.holds .eq (0 : Int32) (1 : Int32) = false) k) ?_
  show Rch p e below T44 (mkF m 20 #[vR ta, vI (0 : Int32), vI (1 : Int32), vR a41, vI (0 : Int32), .unset] []) _
  refine Rch.st (fun _ k => XS.aloadN X44.here hx rfl (hb hby dc3_20) rfl rfl k) ?_
  refine Rch.st (fun _ k => XS.iloadN X44.here hx rfl (hb hby dc3_21) rfl k) ?_
  show Rch p e below T44 (mkF m 22 #[vR ta, vI (0 : Int32), vI (1 : Int32), vR a41, vI (0 : Int32), .unset] [(.int (0 : Int32)), (.ref ta)]) _
  refine Rch.st (fun _ k => XS.iloadN X44.here hx rfl (hb hby dc3_22) rfl k) ?_
  show Rch p e below T44 (mkF m 23 #[vR ta, vI (0 : Int32), vI (1 : Int32), vR a41, vI (0 : Int32), .unset] [(.int (1 : Int32)), (.int (0 : Int32)), (.ref ta)]) _
  obtain ⟨_, _, ⟨T46, L46, k46, n46⟩, -, X46, ⟨Lc46, hQ46, l46, y46, z46⟩, st46⟩ := Jvm.LawKit.callS X44 hx (y := (⟨"java/lang/StringUTF16", "toBytes", "([CII)[B"⟩ : MethodName)) hown (mvT hZ (wq hw 106 rfl)) (mvT hZ (wq hw 107 rfl)) (mvT hZ (wq hw 38 rfl)) (mvT hZ (wq hw 108 rfl)) (by decide) (backOf (W := 0) (rm_toby1 l Z a0 hw [] ta ka c0 fm T44.heap n0 (Nat.le_trans Z0 Ex45.1) (B.ext Ex45) (M.ext Ex45)) hZ (wq hw 108 rfl) (wq hw 38 rfl) (by decide) (by decide)) (g := (mkF m 23 #[vR ta, vI (0 : Int32), vI (1 : Int32), vR a41, vI (0 : Int32), .unset] [(.int (1 : Int32)), (.int (0 : Int32)), (.ref ta)])) rfl (by rw [hml]; rfl) (argsL := [(.ref ta), (.int (0 : Int32)), (.int (1 : Int32))]) (rest := []) (lenOf pd_11 rfl) rfl (by show 2 * 0 + _ ≤ _; exact Nat.le_of_eq rfl) (hb hby dc3_23) (fun _ _ => ⟨rfl, rfl, (by decide : 1 + 1 ≤ _), (by decide : 1 + 2 ≤ _)⟩)
  dsimp only [Pt.U, Pt.locs, Pt.cells, Pt.slots] at X46 l46 y46 z46 st46 hQ46
  subst l46 y46 z46
  obtain ⟨b46, kb46, rfl, Nq46, E46, le46_, V46⟩ := hQ46
  have N46 := Fr.app N44 Nq46
  have Ex47 : Ext h0 T46.heap := Ex45.tr E46
  have Ex48 : Ext T44.heap T46.heap := E46
  refine Rch.st st46 ?_
  show Rch p e below T46 (mkF m 26 #[vR ta, vI (0 : Int32), vI (1 : Int32), vR a41, vI (0 : Int32), .unset] [(.ref b46)]) _
  refine Rch.st (fun _ k => XS.astore X46.here hx rfl (hb hby dc3_26) rfl rfl (l' := #[vR ta, vI (0 : Int32), vI (1 : Int32), vR a41, vI (0 : Int32), vR b46]) rfl k) ?_
  refine Rch.st (fun _ k => XS.aload X46.here hx rfl (hb hby dc3_28) rfl rfl k) ?_
  show Rch p e below T46 (mkF m 30 #[vR ta, vI (0 : Int32), vI (1 : Int32), vR a41, vI (0 : Int32), vR b46] [(.ref b46)]) _
  refine Rch.st (fun _ k => XS.iload X46.here hx rfl (hb hby dc3_30) rfl k) ?_
  show Rch p e below T46 (mkF m 32 #[vR ta, vI (0 : Int32), vI (1 : Int32), vR a41, vI (0 : Int32), vR b46] [(.int (0 : Int32)), (.ref b46)]) _
  obtain ⟨_, _, ⟨T49, L49, k49, n49⟩, -, X49, ⟨Lc49, hQ49, l49, y49, z49⟩, st49⟩ := Jvm.LawKit.callS X46 hx (y := (⟨"java/lang/StringUTF16", "getChar", "([BI)C"⟩ : MethodName)) hown (mvT hZ (wq hw 122 rfl)) (mvT hZ (wq hw 123 rfl)) (mvT hZ (wq hw 38 rfl)) (mvT hZ (wq hw 124 rfl)) (by decide) (backOf (W := 0) (rm_getc l Z a0 hw [] b46 kb46 [c0] 0 fm T46.heap n0 (Nat.le_trans Z0 Ex47.1) (B.ext Ex47) hbd V46 (Nat.le_of_ble_eq_true rfl) (Nat.le_of_ble_eq_true rfl)) hZ (wq hw 124 rfl) (wq hw 38 rfl) (by decide) (by decide)) (g := (mkF m 32 #[vR ta, vI (0 : Int32), vI (1 : Int32), vR a41, vI (0 : Int32), vR b46] [(.int (0 : Int32)), (.ref b46)])) rfl (by rw [hml]; rfl) (argsL := [(.ref b46), (.int (0 : Int32))]) (rest := []) (lenOf pd_4 rfl) rfl (by show 2 * 0 + _ ≤ _; exact Nat.le_of_eq rfl) (hb hby dc3_32) (fun _ _ => ⟨rfl, rfl, (by decide : 2 + 0 ≤ _), (by decide : 3 + 0 ≤ _)⟩)
  dsimp only [Pt.U, Pt.locs, Pt.cells, Pt.slots] at X49 l49 y49 z49 st49 hQ49
  subst l49 y49 z49
  obtain ⟨rfl, Nq49, e49⟩ := hQ49
  have N49 := Fr.app N46 Nq49
  refine Rch.st st49 ?_
  show Rch p e below T49 (mkF m 35 #[vR ta, vI (0 : Int32), vI (1 : Int32), vR a41, vI (0 : Int32), vR b46] [(.int c0)]) _
  refine Rch.st (fun _ k => XS.sipush X49.here hx rfl (hb hby dc3_35)  k) ?_
  refine Rch.st (fun _ k => XS.icmpYes X49.here hx rfl (pc0 := 38) (pc' := 54) rfl (hb hby dc3_38) rfl (tlt hc).2.2.1 (by decide) (by decide) k) ?_
  show Rch p e below T49 (mkF m 54 #[vR ta, vI (0 : Int32), vI (1 : Int32), vR a41, vI (0 : Int32), vR b46] []) _
  refine Rch.st (fun _ k => XS.aload X49.here hx rfl (hb hby dc3_54) rfl rfl k) ?_
  show Rch p e below T49 (mkF m 56 #[vR ta, vI (0 : Int32), vI (1 : Int32), vR a41, vI (0 : Int32), vR b46] [(.ref b46)]) _
  exact Rch.fin (Q := Q_cthr1 Z ta ka c0 fm h0 n0) X49 (v := some (.ref b46)) (fun h => by rw [Bd.returns] at h; cases h) (BodyLoose.notSynchronized Bd) (fun fs hr => retR X49 hx Bd.returns rfl rfl (hb hby dc3_56) hr) (by rw [e49]; exact ⟨b46, kb46, rfl, N49, Ex47, Nat.le_trans Ex45.1 le46_, V46⟩) (by decide) (by decide)
theorem pn_cthr2 : plainFor (⟨"java/lang/StringUTF16", "compress", "([CII)[B"⟩ : MethodName) = true := by first | exact plainFor_of_name (by first | (simp [plainName, overriddenIn]; done) | decide +kernel) | exact Jvm.Free.JP.mathPlain rfl (by decide +kernel)
theorem ef_cthr2 (m : MethodId) (x0 : Addr) (x1 : Int32) (x2 : Int32) : entryFrame m #[(.ref x0), (.int x1), (.int x2)] 6 = mkF m 0 #[vR x0, vI x1, vI x2, .unset, .unset, .unset] [] := by first | (simp [entryFrame, mkF, argsToLocals, Value.category]; done) | rfl
def Q_cthr2 (Z : State) (ta : Addr) (ka : ClassId) (c0 c1 : Int32) (fm : Value) (h0 : Heap) (n0 : Nat) (v : Option Value) (h : Heap) (L : List Loc) : Prop := ∃ b k, v = some (.ref b) ∧ Fr n0 L ∧ Ext h0 h ∧ h0.size ≤ b ∧ Arv Z h b k .byte (4 : Int32) (StrChars.Road.wideBytes [c0, c1]) (.int 0)
set_option maxRecDepth 65536 in
set_option maxHeartbeats 40000000 in
theorem rm_cthr2 (l : Launch) (Z : State) (a0 : Array Value) (hw : ∀ d ∈ tables_1, d.before a0 Z = true) (ws : List Jvm.Cond) (ta : Addr) (ka : ClassId) (c0 c1 : Int32) (fm : Value) (h0 : Heap) (n0 : Nat) (Z0 : n0 ≤ h0.size) (B : Bg Z h0 fm) (M : Arv Z h0 ta ka .char (2 : Int32) [(.int c0), (.int c1)] (.int 0)) (hbd : ∀ c ∈ ([c0, c1] : List Int32), ¬ c < 0 ∧ ¬ (65535 : Int32) < c) (hbig : (255 : Int32) < c0 ∨ (255 : Int32) < c1) :
    MetFree l (⟨"java/lang/StringUTF16", "compress", "([CII)[B"⟩ : MethodName) (head1 (Jvm.Cond.code (⟨"java/lang/StringUTF16", "compress", "([CII)[B"⟩ : MethodName) jdk_52_method_16_code 6 (some (.array .byte)) :: ws) ({ frames := 3, cells := 2, slots := 12, locals := 40 } : Room)) (fun a U => a = #[(.ref ta), (.int (0 : Int32)), (.int (2 : Int32))] ∧ Z.Warmed39 U.vm ∧ U.heap = h0) (fun _ _ _ _ _ => True) (fun _ U o U' => ∃ v L, o = .returned v ∧ Q_cthr2 Z ta ka c0 c1 fm h0 n0 v U'.heap L ∧ FrameEnd U o U' L ({ frames := 3, cells := 2, slots := 12, locals := 40 } : Room).cells ({ frames := 3, cells := 2, slots := 12, locals := 40 } : Room).slots) := by
  refine MetFree.of_bodySF pn_cthr2 hisR ?_
  intro p e s m args below meth c s₁ Bd hml0 hP hK
  obtain ⟨rfl, hZ, hh⟩ := hP
  have hx := Bd.exec
  have hby := Bd.bytes
  have hml : c.maxLocals = 6 := hml0
  have hown : s.vm.findClass "java/lang/StringUTF16" = some m.cls := findClass_of_methodNamed Bd.named
  have hnm := (name_of_methodNamed Bd.named Bd.method).1
  have X0 : Stand p l e ({ frames := 3, cells := 2, slots := 12, locals := 40 } : Room) s m #[(.ref ta), (.int (0 : Int32)), (.int (2 : Int32))] below meth c s₁ [] 0 0 := Stand.of_body Bd
  have e0 : s₁.heap = h0 := by rw [← hh, Bd.state]; rfl
  have N0 := Fr.nil n0
  show Rch p e below s₁ (entryFrame m #[(.ref ta), (.int (0 : Int32)), (.int (2 : Int32))] 6) (fun U o => ∃ v L, o = .returned v ∧ Q_cthr2 Z ta ka c0 c1 fm h0 n0 v U.heap L ∧ FrameEnd s o U L ({ frames := 3, cells := 2, slots := 12, locals := 40 } : Room).cells ({ frames := 3, cells := 2, slots := 12, locals := 40 } : Room).slots)
  refine Rch.cast (ef_cthr2 m ta (0 : Int32) (2 : Int32)) ?_
  show Rch p e below s₁ (mkF m 0 #[vR ta, vI (0 : Int32), vI (2 : Int32), .unset, .unset, .unset] []) _
  refine Rch.st (fun _ k => XS.iloadN X0.here hx rfl (hb hby dc3_0) rfl k) ?_
  show Rch p e below s₁ (mkF m 1 #[vR ta, vI (0 : Int32), vI (2 : Int32), .unset, .unset, .unset] [(.int (2 : Int32))]) _
  obtain ⟨T62, h62, k62, X62, e62, E62, A62, st62⟩ := newP X0 hx hZ (wq hw 15 rfl) e0 (g := (mkF m 1 #[vR ta, vI (0 : Int32), vI (2 : Int32), .unset, .unset, .unset] [(.int (2 : Int32))])) rfl (hb hby dc3_1) rfl (by decide : ¬ ((2 : Int32) < (0 : Int32))) (cap := 2) (by decide : ((2 : Int32)).toNatClampNeg ≤ 2) (by decide) (by decide) (by decide)
  obtain ⟨a62, g62⟩ : ∃ z, z = h0.size := ⟨_, rfl⟩
  rw [← g62] at A62 st62
  have Ex63 : Ext h0 h62 := E62
  have le64 : h0.size ≤ a62 := Nat.le_of_eq g62.symm
  refine Rch.st st62 ?_
  show Rch p e below T62 (mkF m 3 #[vR ta, vI (0 : Int32), vI (2 : Int32), .unset, .unset, .unset] [(.ref a62)]) _
  have V62 : Arv Z h62 a62 k62 .byte (2 : Int32) [(.int (0 : Int32)), (.int (0 : Int32))] (.int (0 : Int32)) := (Arv.new A62 (by decide : ¬ ((2 : Int32) < (0 : Int32)))).pad (pad_rep [] (.int (0 : Int32)) 2)
  refine Rch.st (fun _ k => XS.astoreN X62.here hx rfl (hb hby dc3_3) rfl rfl (l' := #[vR ta, vI (0 : Int32), vI (2 : Int32), vR a62, .unset, .unset]) rfl k) ?_
  refine Rch.st (fun _ k => XS.aloadN X62.here hx rfl (hb hby dc3_4) rfl rfl k) ?_
  show Rch p e below T62 (mkF m 5 #[vR ta, vI (0 : Int32), vI (2 : Int32), vR a62, .unset, .unset] [(.ref ta)]) _
  refine Rch.st (fun _ k => XS.iloadN X62.here hx rfl (hb hby dc3_5) rfl k) ?_
  refine Rch.st (fun _ k => XS.aloadN X62.here hx rfl (hb hby dc3_6) rfl rfl k) ?_
  show Rch p e below T62 (mkF m 7 #[vR ta, vI (0 : Int32), vI (2 : Int32), vR a62, .unset, .unset] [(.ref a62), (.int (0 : Int32)), (.ref ta)]) _
  refine Rch.st (fun _ k => XS.iconst X62.here hx rfl (hb hby dc3_7)  k) ?_
  refine Rch.st (fun _ k => XS.iloadN X62.here hx rfl (hb hby dc3_8) rfl k) ?_
  show Rch p e below T62 (mkF m 9 #[vR ta, vI (0 : Int32), vI (2 : Int32), vR a62, .unset, .unset] [(.int (2 : Int32)), (.int (0 : Int32)), (.ref a62), (.int (0 : Int32)), (.ref ta)]) _
  have ned : ta ≠ a62 := Nat.ne_of_lt (Nat.lt_of_lt_of_le M.lt le64)
  obtain ⟨_, _, ⟨T65, L65, k65, n65⟩, -, X65, ⟨Lc65, hQ65, l65, y65, z65⟩, st65⟩ := Jvm.LawKit.callS X62 hx (y := (⟨"java/lang/StringUTF16", "compress", "([CI[BII)I"⟩ : MethodName)) hown (mvT hZ (wq hw 40 rfl)) (mvT hZ (wq hw 41 rfl)) (mvT hZ (wq hw 38 rfl)) (mvT hZ (wq hw 42 rfl)) (by decide) (backOf (W := 0) (rm_cmp2 l Z a0 hw [] ta a62 ka k62 c0 c1 h62 n0 (Nat.le_trans Z0 Ex63.1) (Nat.le_trans Z0 le64) ned (M.ext Ex63) V62 hbig) hZ (wq hw 42 rfl) (wq hw 38 rfl) (by decide) (by decide)) (g := (mkF m 9 #[vR ta, vI (0 : Int32), vI (2 : Int32), vR a62, .unset, .unset] [(.int (2 : Int32)), (.int (0 : Int32)), (.ref a62), (.int (0 : Int32)), (.ref ta)])) rfl (by rw [hml]; rfl) (argsL := [(.ref ta), (.int (0 : Int32)), (.ref a62), (.int (0 : Int32)), (.int (2 : Int32))]) (rest := []) (lenOf pd_10 rfl) rfl (by show 2 * 0 + _ ≤ _; exact Nat.le_of_eq rfl) (hb hby dc3_9) (fun _ _ => ⟨rfl, e62, (by decide : 1 + 0 ≤ _), (by decide : 2 + 0 ≤ _)⟩)
  dsimp only [Pt.U, Pt.locs, Pt.cells, Pt.slots] at X65 l65 y65 z65 st65 hQ65
  subst l65 y65 z65
  obtain ⟨r65, rfl, Nq65, K65, hr65⟩ := hQ65
  have N65 := Fr.app N0 Nq65
  have Ex66 : Ext h0 T65.heap := extKeep1 Ex63 K65 le64
  refine Rch.st st65 ?_
  show Rch p e below T65 (mkF m 12 #[vR ta, vI (0 : Int32), vI (2 : Int32), vR a62, .unset, .unset] [(.int r65)]) _
  rcases hr65 with ⟨rfl, hc⟩ | ⟨rfl, hc⟩
  · skip
    show Rch p e below T65 (mkF m 12 #[vR ta, vI (0 : Int32), vI (2 : Int32), vR a62, .unset, .unset] [(.int (0 : Int32))]) _
    refine Rch.st (fun _ k => XS.istore X65.here hx rfl (hb hby dc3_12) rfl (l' := #[vR ta, vI (0 : Int32), vI (2 : Int32), vR a62, vI (0 : Int32), .unset]) rfl k) ?_
    refine Rch.st (fun _ k => XS.iload X65.here hx rfl (hb hby dc3_14) rfl k) ?_
    show Rch p e below T65 (mkF m 16 #[vR ta, vI (0 : Int32), vI (2 : Int32), vR a62, vI (0 : Int32), .unset] [(.int (0 : Int32))]) _
    refine Rch.st (fun _ k => XS.iloadN X65.here hx rfl (hb hby dc3_16) rfl k) ?_
    refine Rch.st (fun _ k => XS.icmpNo X65.here hx rfl (hb hby dc3_17) rfl (by decide : if_icmp.holds .eq (0 : Int32) (2 : Int32) = false) k) ?_
    show Rch p e below T65 (mkF m 20 #[vR ta, vI (0 : Int32), vI (2 : Int32), vR a62, vI (0 : Int32), .unset] []) _
    refine Rch.st (fun _ k => XS.aloadN X65.here hx rfl (hb hby dc3_20) rfl rfl k) ?_
    refine Rch.st (fun _ k => XS.iloadN X65.here hx rfl (hb hby dc3_21) rfl k) ?_
    show Rch p e below T65 (mkF m 22 #[vR ta, vI (0 : Int32), vI (2 : Int32), vR a62, vI (0 : Int32), .unset] [(.int (0 : Int32)), (.ref ta)]) _
    refine Rch.st (fun _ k => XS.iloadN X65.here hx rfl (hb hby dc3_22) rfl k) ?_
    show Rch p e below T65 (mkF m 23 #[vR ta, vI (0 : Int32), vI (2 : Int32), vR a62, vI (0 : Int32), .unset] [(.int (2 : Int32)), (.int (0 : Int32)), (.ref ta)]) _
    obtain ⟨_, _, ⟨T67, L67, k67, n67⟩, -, X67, ⟨Lc67, hQ67, l67, y67, z67⟩, st67⟩ := Jvm.LawKit.callS X65 hx (y := (⟨"java/lang/StringUTF16", "toBytes", "([CII)[B"⟩ : MethodName)) hown (mvT hZ (wq hw 106 rfl)) (mvT hZ (wq hw 107 rfl)) (mvT hZ (wq hw 38 rfl)) (mvT hZ (wq hw 108 rfl)) (by decide) (backOf (W := 0) (rm_toby2 l Z a0 hw [] ta ka c0 c1 fm T65.heap n0 (Nat.le_trans Z0 Ex66.1) (B.ext Ex66) (M.ext Ex66)) hZ (wq hw 108 rfl) (wq hw 38 rfl) (by decide) (by decide)) (g := (mkF m 23 #[vR ta, vI (0 : Int32), vI (2 : Int32), vR a62, vI (0 : Int32), .unset] [(.int (2 : Int32)), (.int (0 : Int32)), (.ref ta)])) rfl (by rw [hml]; rfl) (argsL := [(.ref ta), (.int (0 : Int32)), (.int (2 : Int32))]) (rest := []) (lenOf pd_11 rfl) rfl (by show 2 * 0 + _ ≤ _; exact Nat.le_of_eq rfl) (hb hby dc3_23) (fun _ _ => ⟨rfl, rfl, (by decide : 1 + 1 ≤ _), (by decide : 2 + 4 ≤ _)⟩)
    dsimp only [Pt.U, Pt.locs, Pt.cells, Pt.slots] at X67 l67 y67 z67 st67 hQ67
    subst l67 y67 z67
    obtain ⟨b67, kb67, rfl, Nq67, E67, le67_, V67⟩ := hQ67
    have N67 := Fr.app N65 Nq67
    have Ex68 : Ext h0 T67.heap := Ex66.tr E67
    have Ex69 : Ext T65.heap T67.heap := E67
    refine Rch.st st67 ?_
    show Rch p e below T67 (mkF m 26 #[vR ta, vI (0 : Int32), vI (2 : Int32), vR a62, vI (0 : Int32), .unset] [(.ref b67)]) _
    refine Rch.st (fun _ k => XS.astore X67.here hx rfl (hb hby dc3_26) rfl rfl (l' := #[vR ta, vI (0 : Int32), vI (2 : Int32), vR a62, vI (0 : Int32), vR b67]) rfl k) ?_
    refine Rch.st (fun _ k => XS.aload X67.here hx rfl (hb hby dc3_28) rfl rfl k) ?_
    show Rch p e below T67 (mkF m 30 #[vR ta, vI (0 : Int32), vI (2 : Int32), vR a62, vI (0 : Int32), vR b67] [(.ref b67)]) _
    refine Rch.st (fun _ k => XS.iload X67.here hx rfl (hb hby dc3_30) rfl k) ?_
    show Rch p e below T67 (mkF m 32 #[vR ta, vI (0 : Int32), vI (2 : Int32), vR a62, vI (0 : Int32), vR b67] [(.int (0 : Int32)), (.ref b67)]) _
    obtain ⟨_, _, ⟨T70, L70, k70, n70⟩, -, X70, ⟨Lc70, hQ70, l70, y70, z70⟩, st70⟩ := Jvm.LawKit.callS X67 hx (y := (⟨"java/lang/StringUTF16", "getChar", "([BI)C"⟩ : MethodName)) hown (mvT hZ (wq hw 122 rfl)) (mvT hZ (wq hw 123 rfl)) (mvT hZ (wq hw 38 rfl)) (mvT hZ (wq hw 124 rfl)) (by decide) (backOf (W := 0) (rm_getc l Z a0 hw [] b67 kb67 [c0, c1] 0 fm T67.heap n0 (Nat.le_trans Z0 Ex68.1) (B.ext Ex68) hbd V67 (Nat.le_of_ble_eq_true rfl) (Nat.le_of_ble_eq_true rfl)) hZ (wq hw 124 rfl) (wq hw 38 rfl) (by decide) (by decide)) (g := (mkF m 32 #[vR ta, vI (0 : Int32), vI (2 : Int32), vR a62, vI (0 : Int32), vR b67] [(.int (0 : Int32)), (.ref b67)])) rfl (by rw [hml]; rfl) (argsL := [(.ref b67), (.int (0 : Int32))]) (rest := []) (lenOf pd_4 rfl) rfl (by show 2 * 0 + _ ≤ _; exact Nat.le_of_eq rfl) (hb hby dc3_32) (fun _ _ => ⟨rfl, rfl, (by decide : 2 + 0 ≤ _), (by decide : 6 + 0 ≤ _)⟩)
    dsimp only [Pt.U, Pt.locs, Pt.cells, Pt.slots] at X70 l70 y70 z70 st70 hQ70
    subst l70 y70 z70
    obtain ⟨rfl, Nq70, e70⟩ := hQ70
    have N70 := Fr.app N67 Nq70
    refine Rch.st st70 ?_
    show Rch p e below T70 (mkF m 35 #[vR ta, vI (0 : Int32), vI (2 : Int32), vR a62, vI (0 : Int32), vR b67] [(.int c0)]) _
    refine Rch.st (fun _ k => XS.sipush X70.here hx rfl (hb hby dc3_35)  k) ?_
    refine Rch.st (fun _ k => XS.icmpYes X70.here hx rfl (pc0 := 38) (pc' := 54) rfl (hb hby dc3_38) rfl (tlt hc).2.2.1 (by decide) (by decide) k) ?_
    show Rch p e below T70 (mkF m 54 #[vR ta, vI (0 : Int32), vI (2 : Int32), vR a62, vI (0 : Int32), vR b67] []) _
    refine Rch.st (fun _ k => XS.aload X70.here hx rfl (hb hby dc3_54) rfl rfl k) ?_
    show Rch p e below T70 (mkF m 56 #[vR ta, vI (0 : Int32), vI (2 : Int32), vR a62, vI (0 : Int32), vR b67] [(.ref b67)]) _
    exact Rch.fin (Q := Q_cthr2 Z ta ka c0 c1 fm h0 n0) X70 (v := some (.ref b67)) (fun h => by rw [Bd.returns] at h; cases h) (BodyLoose.notSynchronized Bd) (fun fs hr => retR X70 hx Bd.returns rfl rfl (hb hby dc3_56) hr) (by rw [e70]; exact ⟨b67, kb67, rfl, N70, Ex68, Nat.le_trans Ex66.1 le67_, V67⟩) (by decide) (by decide)
  · skip
    show Rch p e below T65 (mkF m 12 #[vR ta, vI (0 : Int32), vI (2 : Int32), vR a62, .unset, .unset] [(.int (1 : Int32))]) _
    refine Rch.st (fun _ k => XS.istore X65.here hx rfl (hb hby dc3_12) rfl (l' := #[vR ta, vI (0 : Int32), vI (2 : Int32), vR a62, vI (1 : Int32), .unset]) rfl k) ?_
    refine Rch.st (fun _ k => XS.iload X65.here hx rfl (hb hby dc3_14) rfl k) ?_
    show Rch p e below T65 (mkF m 16 #[vR ta, vI (0 : Int32), vI (2 : Int32), vR a62, vI (1 : Int32), .unset] [(.int (1 : Int32))]) _
    refine Rch.st (fun _ k => XS.iloadN X65.here hx rfl (hb hby dc3_16) rfl k) ?_
    refine Rch.st (fun _ k => XS.icmpNo X65.here hx rfl (hb hby dc3_17) rfl (by decide : if_icmp.holds .eq (1 : Int32) (2 : Int32) = false) k) ?_
    show Rch p e below T65 (mkF m 20 #[vR ta, vI (0 : Int32), vI (2 : Int32), vR a62, vI (1 : Int32), .unset] []) _
    refine Rch.st (fun _ k => XS.aloadN X65.here hx rfl (hb hby dc3_20) rfl rfl k) ?_
    refine Rch.st (fun _ k => XS.iloadN X65.here hx rfl (hb hby dc3_21) rfl k) ?_
    show Rch p e below T65 (mkF m 22 #[vR ta, vI (0 : Int32), vI (2 : Int32), vR a62, vI (1 : Int32), .unset] [(.int (0 : Int32)), (.ref ta)]) _
    refine Rch.st (fun _ k => XS.iloadN X65.here hx rfl (hb hby dc3_22) rfl k) ?_
    show Rch p e below T65 (mkF m 23 #[vR ta, vI (0 : Int32), vI (2 : Int32), vR a62, vI (1 : Int32), .unset] [(.int (2 : Int32)), (.int (0 : Int32)), (.ref ta)]) _
    obtain ⟨_, _, ⟨T71, L71, k71, n71⟩, -, X71, ⟨Lc71, hQ71, l71, y71, z71⟩, st71⟩ := Jvm.LawKit.callS X65 hx (y := (⟨"java/lang/StringUTF16", "toBytes", "([CII)[B"⟩ : MethodName)) hown (mvT hZ (wq hw 106 rfl)) (mvT hZ (wq hw 107 rfl)) (mvT hZ (wq hw 38 rfl)) (mvT hZ (wq hw 108 rfl)) (by decide) (backOf (W := 0) (rm_toby2 l Z a0 hw [] ta ka c0 c1 fm T65.heap n0 (Nat.le_trans Z0 Ex66.1) (B.ext Ex66) (M.ext Ex66)) hZ (wq hw 108 rfl) (wq hw 38 rfl) (by decide) (by decide)) (g := (mkF m 23 #[vR ta, vI (0 : Int32), vI (2 : Int32), vR a62, vI (1 : Int32), .unset] [(.int (2 : Int32)), (.int (0 : Int32)), (.ref ta)])) rfl (by rw [hml]; rfl) (argsL := [(.ref ta), (.int (0 : Int32)), (.int (2 : Int32))]) (rest := []) (lenOf pd_11 rfl) rfl (by show 2 * 0 + _ ≤ _; exact Nat.le_of_eq rfl) (hb hby dc3_23) (fun _ _ => ⟨rfl, rfl, (by decide : 1 + 1 ≤ _), (by decide : 2 + 4 ≤ _)⟩)
    dsimp only [Pt.U, Pt.locs, Pt.cells, Pt.slots] at X71 l71 y71 z71 st71 hQ71
    subst l71 y71 z71
    obtain ⟨b71, kb71, rfl, Nq71, E71, le71_, V71⟩ := hQ71
    have N71 := Fr.app N65 Nq71
    have Ex72 : Ext h0 T71.heap := Ex66.tr E71
    have Ex73 : Ext T65.heap T71.heap := E71
    refine Rch.st st71 ?_
    show Rch p e below T71 (mkF m 26 #[vR ta, vI (0 : Int32), vI (2 : Int32), vR a62, vI (1 : Int32), .unset] [(.ref b71)]) _
    refine Rch.st (fun _ k => XS.astore X71.here hx rfl (hb hby dc3_26) rfl rfl (l' := #[vR ta, vI (0 : Int32), vI (2 : Int32), vR a62, vI (1 : Int32), vR b71]) rfl k) ?_
    refine Rch.st (fun _ k => XS.aload X71.here hx rfl (hb hby dc3_28) rfl rfl k) ?_
    show Rch p e below T71 (mkF m 30 #[vR ta, vI (0 : Int32), vI (2 : Int32), vR a62, vI (1 : Int32), vR b71] [(.ref b71)]) _
    refine Rch.st (fun _ k => XS.iload X71.here hx rfl (hb hby dc3_30) rfl k) ?_
    show Rch p e below T71 (mkF m 32 #[vR ta, vI (0 : Int32), vI (2 : Int32), vR a62, vI (1 : Int32), vR b71] [(.int (1 : Int32)), (.ref b71)]) _
    obtain ⟨_, _, ⟨T74, L74, k74, n74⟩, -, X74, ⟨Lc74, hQ74, l74, y74, z74⟩, st74⟩ := Jvm.LawKit.callS X71 hx (y := (⟨"java/lang/StringUTF16", "getChar", "([BI)C"⟩ : MethodName)) hown (mvT hZ (wq hw 122 rfl)) (mvT hZ (wq hw 123 rfl)) (mvT hZ (wq hw 38 rfl)) (mvT hZ (wq hw 124 rfl)) (by decide) (backOf (W := 0) (rm_getc l Z a0 hw [] b71 kb71 [c0, c1] 1 fm T71.heap n0 (Nat.le_trans Z0 Ex72.1) (B.ext Ex72) hbd V71 (Nat.le_of_ble_eq_true rfl) (Nat.le_of_ble_eq_true rfl)) hZ (wq hw 124 rfl) (wq hw 38 rfl) (by decide) (by decide)) (g := (mkF m 32 #[vR ta, vI (0 : Int32), vI (2 : Int32), vR a62, vI (1 : Int32), vR b71] [(.int (1 : Int32)), (.ref b71)])) rfl (by rw [hml]; rfl) (argsL := [(.ref b71), (.int (1 : Int32))]) (rest := []) (lenOf pd_4 rfl) rfl (by show 2 * 0 + _ ≤ _; exact Nat.le_of_eq rfl) (hb hby dc3_32) (fun _ _ => ⟨rfl, rfl, (by decide : 2 + 0 ≤ _), (by decide : 6 + 0 ≤ _)⟩)
    dsimp only [Pt.U, Pt.locs, Pt.cells, Pt.slots] at X74 l74 y74 z74 st74 hQ74
    subst l74 y74 z74
    obtain ⟨rfl, Nq74, e74⟩ := hQ74
    have N74 := Fr.app N71 Nq74
    refine Rch.st st74 ?_
    show Rch p e below T74 (mkF m 35 #[vR ta, vI (0 : Int32), vI (2 : Int32), vR a62, vI (1 : Int32), vR b71] [(.int c1)]) _
    refine Rch.st (fun _ k => XS.sipush X74.here hx rfl (hb hby dc3_35)  k) ?_
    refine Rch.st (fun _ k => XS.icmpYes X74.here hx rfl (pc0 := 38) (pc' := 54) rfl (hb hby dc3_38) rfl (tlt hc).2.2.1 (by decide) (by decide) k) ?_
    show Rch p e below T74 (mkF m 54 #[vR ta, vI (0 : Int32), vI (2 : Int32), vR a62, vI (1 : Int32), vR b71] []) _
    refine Rch.st (fun _ k => XS.aload X74.here hx rfl (hb hby dc3_54) rfl rfl k) ?_
    show Rch p e below T74 (mkF m 56 #[vR ta, vI (0 : Int32), vI (2 : Int32), vR a62, vI (1 : Int32), vR b71] [(.ref b71)]) _
    exact Rch.fin (Q := Q_cthr2 Z ta ka c0 c1 fm h0 n0) X74 (v := some (.ref b71)) (fun h => by rw [Bd.returns] at h; cases h) (BodyLoose.notSynchronized Bd) (fun fs hr => retR X74 hx Bd.returns rfl rfl (hb hby dc3_56) hr) (by rw [e74]; exact ⟨b71, kb71, rfl, N74, Ex72, Nat.le_trans Ex66.1 le71_, V71⟩) (by decide) (by decide)
theorem pn_cthr3 : plainFor (⟨"java/lang/StringUTF16", "compress", "([CII)[B"⟩ : MethodName) = true := by first | exact plainFor_of_name (by first | (simp [plainName, overriddenIn]; done) | decide +kernel) | exact Jvm.Free.JP.mathPlain rfl (by decide +kernel)
theorem ef_cthr3 (m : MethodId) (x0 : Addr) (x1 : Int32) (x2 : Int32) : entryFrame m #[(.ref x0), (.int x1), (.int x2)] 6 = mkF m 0 #[vR x0, vI x1, vI x2, .unset, .unset, .unset] [] := by first | (simp [entryFrame, mkF, argsToLocals, Value.category]; done) | rfl
def Q_cthr3 (Z : State) (ta : Addr) (ka : ClassId) (c0 c1 c2 : Int32) (fm : Value) (h0 : Heap) (n0 : Nat) (v : Option Value) (h : Heap) (L : List Loc) : Prop := ∃ b k, v = some (.ref b) ∧ Fr n0 L ∧ Ext h0 h ∧ h0.size ≤ b ∧ Arv Z h b k .byte (6 : Int32) (StrChars.Road.wideBytes [c0, c1, c2]) (.int 0)
set_option maxRecDepth 65536 in
set_option maxHeartbeats 40000000 in
theorem rm_cthr3 (l : Launch) (Z : State) (a0 : Array Value) (hw : ∀ d ∈ tables_1, d.before a0 Z = true) (ws : List Jvm.Cond) (ta : Addr) (ka : ClassId) (c0 c1 c2 : Int32) (fm : Value) (h0 : Heap) (n0 : Nat) (Z0 : n0 ≤ h0.size) (B : Bg Z h0 fm) (M : Arv Z h0 ta ka .char (3 : Int32) [(.int c0), (.int c1), (.int c2)] (.int 0)) (hbd : ∀ c ∈ ([c0, c1, c2] : List Int32), ¬ c < 0 ∧ ¬ (65535 : Int32) < c) (hbig : (255 : Int32) < c0 ∨ (255 : Int32) < c1 ∨ (255 : Int32) < c2) :
    MetFree l (⟨"java/lang/StringUTF16", "compress", "([CII)[B"⟩ : MethodName) (head1 (Jvm.Cond.code (⟨"java/lang/StringUTF16", "compress", "([CII)[B"⟩ : MethodName) jdk_52_method_16_code 6 (some (.array .byte)) :: ws) ({ frames := 3, cells := 2, slots := 12, locals := 40 } : Room)) (fun a U => a = #[(.ref ta), (.int (0 : Int32)), (.int (3 : Int32))] ∧ Z.Warmed39 U.vm ∧ U.heap = h0) (fun _ _ _ _ _ => True) (fun _ U o U' => ∃ v L, o = .returned v ∧ Q_cthr3 Z ta ka c0 c1 c2 fm h0 n0 v U'.heap L ∧ FrameEnd U o U' L ({ frames := 3, cells := 2, slots := 12, locals := 40 } : Room).cells ({ frames := 3, cells := 2, slots := 12, locals := 40 } : Room).slots) := by
  refine MetFree.of_bodySF pn_cthr3 hisR ?_
  intro p e s m args below meth c s₁ Bd hml0 hP hK
  obtain ⟨rfl, hZ, hh⟩ := hP
  have hx := Bd.exec
  have hby := Bd.bytes
  have hml : c.maxLocals = 6 := hml0
  have hown : s.vm.findClass "java/lang/StringUTF16" = some m.cls := findClass_of_methodNamed Bd.named
  have hnm := (name_of_methodNamed Bd.named Bd.method).1
  have X0 : Stand p l e ({ frames := 3, cells := 2, slots := 12, locals := 40 } : Room) s m #[(.ref ta), (.int (0 : Int32)), (.int (3 : Int32))] below meth c s₁ [] 0 0 := Stand.of_body Bd
  have e0 : s₁.heap = h0 := by rw [← hh, Bd.state]; rfl
  have N0 := Fr.nil n0
  show Rch p e below s₁ (entryFrame m #[(.ref ta), (.int (0 : Int32)), (.int (3 : Int32))] 6) (fun U o => ∃ v L, o = .returned v ∧ Q_cthr3 Z ta ka c0 c1 c2 fm h0 n0 v U.heap L ∧ FrameEnd s o U L ({ frames := 3, cells := 2, slots := 12, locals := 40 } : Room).cells ({ frames := 3, cells := 2, slots := 12, locals := 40 } : Room).slots)
  refine Rch.cast (ef_cthr3 m ta (0 : Int32) (3 : Int32)) ?_
  show Rch p e below s₁ (mkF m 0 #[vR ta, vI (0 : Int32), vI (3 : Int32), .unset, .unset, .unset] []) _
  refine Rch.st (fun _ k => XS.iloadN X0.here hx rfl (hb hby dc3_0) rfl k) ?_
  show Rch p e below s₁ (mkF m 1 #[vR ta, vI (0 : Int32), vI (3 : Int32), .unset, .unset, .unset] [(.int (3 : Int32))]) _
  obtain ⟨T90, h90, k90, X90, e90, E90, A90, st90⟩ := newP X0 hx hZ (wq hw 15 rfl) e0 (g := (mkF m 1 #[vR ta, vI (0 : Int32), vI (3 : Int32), .unset, .unset, .unset] [(.int (3 : Int32))])) rfl (hb hby dc3_1) rfl (by decide : ¬ ((3 : Int32) < (0 : Int32))) (cap := 3) (by decide : ((3 : Int32)).toNatClampNeg ≤ 3) (by decide) (by decide) (by decide)
  obtain ⟨a90, g90⟩ : ∃ z, z = h0.size := ⟨_, rfl⟩
  rw [← g90] at A90 st90
  have Ex91 : Ext h0 h90 := E90
  have le92 : h0.size ≤ a90 := Nat.le_of_eq g90.symm
  refine Rch.st st90 ?_
  show Rch p e below T90 (mkF m 3 #[vR ta, vI (0 : Int32), vI (3 : Int32), .unset, .unset, .unset] [(.ref a90)]) _
  have V90 : Arv Z h90 a90 k90 .byte (3 : Int32) [(.int (0 : Int32)), (.int (0 : Int32)), (.int (0 : Int32))] (.int (0 : Int32)) := (Arv.new A90 (by decide : ¬ ((3 : Int32) < (0 : Int32)))).pad (pad_rep [] (.int (0 : Int32)) 3)
  refine Rch.st (fun _ k => XS.astoreN X90.here hx rfl (hb hby dc3_3) rfl rfl (l' := #[vR ta, vI (0 : Int32), vI (3 : Int32), vR a90, .unset, .unset]) rfl k) ?_
  refine Rch.st (fun _ k => XS.aloadN X90.here hx rfl (hb hby dc3_4) rfl rfl k) ?_
  show Rch p e below T90 (mkF m 5 #[vR ta, vI (0 : Int32), vI (3 : Int32), vR a90, .unset, .unset] [(.ref ta)]) _
  refine Rch.st (fun _ k => XS.iloadN X90.here hx rfl (hb hby dc3_5) rfl k) ?_
  refine Rch.st (fun _ k => XS.aloadN X90.here hx rfl (hb hby dc3_6) rfl rfl k) ?_
  show Rch p e below T90 (mkF m 7 #[vR ta, vI (0 : Int32), vI (3 : Int32), vR a90, .unset, .unset] [(.ref a90), (.int (0 : Int32)), (.ref ta)]) _
  refine Rch.st (fun _ k => XS.iconst X90.here hx rfl (hb hby dc3_7)  k) ?_
  refine Rch.st (fun _ k => XS.iloadN X90.here hx rfl (hb hby dc3_8) rfl k) ?_
  show Rch p e below T90 (mkF m 9 #[vR ta, vI (0 : Int32), vI (3 : Int32), vR a90, .unset, .unset] [(.int (3 : Int32)), (.int (0 : Int32)), (.ref a90), (.int (0 : Int32)), (.ref ta)]) _
  have ned : ta ≠ a90 := Nat.ne_of_lt (Nat.lt_of_lt_of_le M.lt le92)
  obtain ⟨_, _, ⟨T93, L93, k93, n93⟩, -, X93, ⟨Lc93, hQ93, l93, y93, z93⟩, st93⟩ := Jvm.LawKit.callS X90 hx (y := (⟨"java/lang/StringUTF16", "compress", "([CI[BII)I"⟩ : MethodName)) hown (mvT hZ (wq hw 40 rfl)) (mvT hZ (wq hw 41 rfl)) (mvT hZ (wq hw 38 rfl)) (mvT hZ (wq hw 42 rfl)) (by decide) (backOf (W := 0) (rm_cmp3 l Z a0 hw [] ta a90 ka k90 c0 c1 c2 h90 n0 (Nat.le_trans Z0 Ex91.1) (Nat.le_trans Z0 le92) ned (M.ext Ex91) V90 hbig) hZ (wq hw 42 rfl) (wq hw 38 rfl) (by decide) (by decide)) (g := (mkF m 9 #[vR ta, vI (0 : Int32), vI (3 : Int32), vR a90, .unset, .unset] [(.int (3 : Int32)), (.int (0 : Int32)), (.ref a90), (.int (0 : Int32)), (.ref ta)])) rfl (by rw [hml]; rfl) (argsL := [(.ref ta), (.int (0 : Int32)), (.ref a90), (.int (0 : Int32)), (.int (3 : Int32))]) (rest := []) (lenOf pd_10 rfl) rfl (by show 2 * 0 + _ ≤ _; exact Nat.le_of_eq rfl) (hb hby dc3_9) (fun _ _ => ⟨rfl, e90, (by decide : 1 + 0 ≤ _), (by decide : 3 + 0 ≤ _)⟩)
  dsimp only [Pt.U, Pt.locs, Pt.cells, Pt.slots] at X93 l93 y93 z93 st93 hQ93
  subst l93 y93 z93
  obtain ⟨r93, rfl, Nq93, K93, hr93⟩ := hQ93
  have N93 := Fr.app N0 Nq93
  have Ex94 : Ext h0 T93.heap := extKeep1 Ex91 K93 le92
  refine Rch.st st93 ?_
  show Rch p e below T93 (mkF m 12 #[vR ta, vI (0 : Int32), vI (3 : Int32), vR a90, .unset, .unset] [(.int r93)]) _
  rcases hr93 with ⟨rfl, hc⟩ | ⟨rfl, hc⟩ | ⟨rfl, hc⟩
  · skip
    show Rch p e below T93 (mkF m 12 #[vR ta, vI (0 : Int32), vI (3 : Int32), vR a90, .unset, .unset] [(.int (0 : Int32))]) _
    refine Rch.st (fun _ k => XS.istore X93.here hx rfl (hb hby dc3_12) rfl (l' := #[vR ta, vI (0 : Int32), vI (3 : Int32), vR a90, vI (0 : Int32), .unset]) rfl k) ?_
    refine Rch.st (fun _ k => XS.iload X93.here hx rfl (hb hby dc3_14) rfl k) ?_
    show Rch p e below T93 (mkF m 16 #[vR ta, vI (0 : Int32), vI (3 : Int32), vR a90, vI (0 : Int32), .unset] [(.int (0 : Int32))]) _
    refine Rch.st (fun _ k => XS.iloadN X93.here hx rfl (hb hby dc3_16) rfl k) ?_
    refine Rch.st (fun _ k => XS.icmpNo X93.here hx rfl (hb hby dc3_17) rfl (by decide : if_icmp.holds .eq (0 : Int32) (3 : Int32) = false) k) ?_
    show Rch p e below T93 (mkF m 20 #[vR ta, vI (0 : Int32), vI (3 : Int32), vR a90, vI (0 : Int32), .unset] []) _
    refine Rch.st (fun _ k => XS.aloadN X93.here hx rfl (hb hby dc3_20) rfl rfl k) ?_
    refine Rch.st (fun _ k => XS.iloadN X93.here hx rfl (hb hby dc3_21) rfl k) ?_
    show Rch p e below T93 (mkF m 22 #[vR ta, vI (0 : Int32), vI (3 : Int32), vR a90, vI (0 : Int32), .unset] [(.int (0 : Int32)), (.ref ta)]) _
    refine Rch.st (fun _ k => XS.iloadN X93.here hx rfl (hb hby dc3_22) rfl k) ?_
    show Rch p e below T93 (mkF m 23 #[vR ta, vI (0 : Int32), vI (3 : Int32), vR a90, vI (0 : Int32), .unset] [(.int (3 : Int32)), (.int (0 : Int32)), (.ref ta)]) _
    obtain ⟨_, _, ⟨T95, L95, k95, n95⟩, -, X95, ⟨Lc95, hQ95, l95, y95, z95⟩, st95⟩ := Jvm.LawKit.callS X93 hx (y := (⟨"java/lang/StringUTF16", "toBytes", "([CII)[B"⟩ : MethodName)) hown (mvT hZ (wq hw 106 rfl)) (mvT hZ (wq hw 107 rfl)) (mvT hZ (wq hw 38 rfl)) (mvT hZ (wq hw 108 rfl)) (by decide) (backOf (W := 0) (rm_toby3 l Z a0 hw [] ta ka c0 c1 c2 fm T93.heap n0 (Nat.le_trans Z0 Ex94.1) (B.ext Ex94) (M.ext Ex94)) hZ (wq hw 108 rfl) (wq hw 38 rfl) (by decide) (by decide)) (g := (mkF m 23 #[vR ta, vI (0 : Int32), vI (3 : Int32), vR a90, vI (0 : Int32), .unset] [(.int (3 : Int32)), (.int (0 : Int32)), (.ref ta)])) rfl (by rw [hml]; rfl) (argsL := [(.ref ta), (.int (0 : Int32)), (.int (3 : Int32))]) (rest := []) (lenOf pd_11 rfl) rfl (by show 2 * 0 + _ ≤ _; exact Nat.le_of_eq rfl) (hb hby dc3_23) (fun _ _ => ⟨rfl, rfl, (by decide : 1 + 1 ≤ _), (by decide : 3 + 6 ≤ _)⟩)
    dsimp only [Pt.U, Pt.locs, Pt.cells, Pt.slots] at X95 l95 y95 z95 st95 hQ95
    subst l95 y95 z95
    obtain ⟨b95, kb95, rfl, Nq95, E95, le95_, V95⟩ := hQ95
    have N95 := Fr.app N93 Nq95
    have Ex96 : Ext h0 T95.heap := Ex94.tr E95
    have Ex97 : Ext T93.heap T95.heap := E95
    refine Rch.st st95 ?_
    show Rch p e below T95 (mkF m 26 #[vR ta, vI (0 : Int32), vI (3 : Int32), vR a90, vI (0 : Int32), .unset] [(.ref b95)]) _
    refine Rch.st (fun _ k => XS.astore X95.here hx rfl (hb hby dc3_26) rfl rfl (l' := #[vR ta, vI (0 : Int32), vI (3 : Int32), vR a90, vI (0 : Int32), vR b95]) rfl k) ?_
    refine Rch.st (fun _ k => XS.aload X95.here hx rfl (hb hby dc3_28) rfl rfl k) ?_
    show Rch p e below T95 (mkF m 30 #[vR ta, vI (0 : Int32), vI (3 : Int32), vR a90, vI (0 : Int32), vR b95] [(.ref b95)]) _
    refine Rch.st (fun _ k => XS.iload X95.here hx rfl (hb hby dc3_30) rfl k) ?_
    show Rch p e below T95 (mkF m 32 #[vR ta, vI (0 : Int32), vI (3 : Int32), vR a90, vI (0 : Int32), vR b95] [(.int (0 : Int32)), (.ref b95)]) _
    obtain ⟨_, _, ⟨T98, L98, k98, n98⟩, -, X98, ⟨Lc98, hQ98, l98, y98, z98⟩, st98⟩ := Jvm.LawKit.callS X95 hx (y := (⟨"java/lang/StringUTF16", "getChar", "([BI)C"⟩ : MethodName)) hown (mvT hZ (wq hw 122 rfl)) (mvT hZ (wq hw 123 rfl)) (mvT hZ (wq hw 38 rfl)) (mvT hZ (wq hw 124 rfl)) (by decide) (backOf (W := 0) (rm_getc l Z a0 hw [] b95 kb95 [c0, c1, c2] 0 fm T95.heap n0 (Nat.le_trans Z0 Ex96.1) (B.ext Ex96) hbd V95 (Nat.le_of_ble_eq_true rfl) (Nat.le_of_ble_eq_true rfl)) hZ (wq hw 124 rfl) (wq hw 38 rfl) (by decide) (by decide)) (g := (mkF m 32 #[vR ta, vI (0 : Int32), vI (3 : Int32), vR a90, vI (0 : Int32), vR b95] [(.int (0 : Int32)), (.ref b95)])) rfl (by rw [hml]; rfl) (argsL := [(.ref b95), (.int (0 : Int32))]) (rest := []) (lenOf pd_4 rfl) rfl (by show 2 * 0 + _ ≤ _; exact Nat.le_of_eq rfl) (hb hby dc3_32) (fun _ _ => ⟨rfl, rfl, (by decide : 2 + 0 ≤ _), (by decide : 9 + 0 ≤ _)⟩)
    dsimp only [Pt.U, Pt.locs, Pt.cells, Pt.slots] at X98 l98 y98 z98 st98 hQ98
    subst l98 y98 z98
    obtain ⟨rfl, Nq98, e98⟩ := hQ98
    have N98 := Fr.app N95 Nq98
    refine Rch.st st98 ?_
    show Rch p e below T98 (mkF m 35 #[vR ta, vI (0 : Int32), vI (3 : Int32), vR a90, vI (0 : Int32), vR b95] [(.int c0)]) _
    refine Rch.st (fun _ k => XS.sipush X98.here hx rfl (hb hby dc3_35)  k) ?_
    refine Rch.st (fun _ k => XS.icmpYes X98.here hx rfl (pc0 := 38) (pc' := 54) rfl (hb hby dc3_38) rfl (tlt hc).2.2.1 (by decide) (by decide) k) ?_
    show Rch p e below T98 (mkF m 54 #[vR ta, vI (0 : Int32), vI (3 : Int32), vR a90, vI (0 : Int32), vR b95] []) _
    refine Rch.st (fun _ k => XS.aload X98.here hx rfl (hb hby dc3_54) rfl rfl k) ?_
    show Rch p e below T98 (mkF m 56 #[vR ta, vI (0 : Int32), vI (3 : Int32), vR a90, vI (0 : Int32), vR b95] [(.ref b95)]) _
    exact Rch.fin (Q := Q_cthr3 Z ta ka c0 c1 c2 fm h0 n0) X98 (v := some (.ref b95)) (fun h => by rw [Bd.returns] at h; cases h) (BodyLoose.notSynchronized Bd) (fun fs hr => retR X98 hx Bd.returns rfl rfl (hb hby dc3_56) hr) (by rw [e98]; exact ⟨b95, kb95, rfl, N98, Ex96, Nat.le_trans Ex94.1 le95_, V95⟩) (by decide) (by decide)
  · skip
    show Rch p e below T93 (mkF m 12 #[vR ta, vI (0 : Int32), vI (3 : Int32), vR a90, .unset, .unset] [(.int (1 : Int32))]) _
    refine Rch.st (fun _ k => XS.istore X93.here hx rfl (hb hby dc3_12) rfl (l' := #[vR ta, vI (0 : Int32), vI (3 : Int32), vR a90, vI (1 : Int32), .unset]) rfl k) ?_
    refine Rch.st (fun _ k => XS.iload X93.here hx rfl (hb hby dc3_14) rfl k) ?_
    show Rch p e below T93 (mkF m 16 #[vR ta, vI (0 : Int32), vI (3 : Int32), vR a90, vI (1 : Int32), .unset] [(.int (1 : Int32))]) _
    refine Rch.st (fun _ k => XS.iloadN X93.here hx rfl (hb hby dc3_16) rfl k) ?_
    refine Rch.st (fun _ k => XS.icmpNo X93.here hx rfl (hb hby dc3_17) rfl (by decide : if_icmp.holds .eq (1 : Int32) (3 : Int32) = false) k) ?_
    show Rch p e below T93 (mkF m 20 #[vR ta, vI (0 : Int32), vI (3 : Int32), vR a90, vI (1 : Int32), .unset] []) _
    refine Rch.st (fun _ k => XS.aloadN X93.here hx rfl (hb hby dc3_20) rfl rfl k) ?_
    refine Rch.st (fun _ k => XS.iloadN X93.here hx rfl (hb hby dc3_21) rfl k) ?_
    show Rch p e below T93 (mkF m 22 #[vR ta, vI (0 : Int32), vI (3 : Int32), vR a90, vI (1 : Int32), .unset] [(.int (0 : Int32)), (.ref ta)]) _
    refine Rch.st (fun _ k => XS.iloadN X93.here hx rfl (hb hby dc3_22) rfl k) ?_
    show Rch p e below T93 (mkF m 23 #[vR ta, vI (0 : Int32), vI (3 : Int32), vR a90, vI (1 : Int32), .unset] [(.int (3 : Int32)), (.int (0 : Int32)), (.ref ta)]) _
    obtain ⟨_, _, ⟨T99, L99, k99, n99⟩, -, X99, ⟨Lc99, hQ99, l99, y99, z99⟩, st99⟩ := Jvm.LawKit.callS X93 hx (y := (⟨"java/lang/StringUTF16", "toBytes", "([CII)[B"⟩ : MethodName)) hown (mvT hZ (wq hw 106 rfl)) (mvT hZ (wq hw 107 rfl)) (mvT hZ (wq hw 38 rfl)) (mvT hZ (wq hw 108 rfl)) (by decide) (backOf (W := 0) (rm_toby3 l Z a0 hw [] ta ka c0 c1 c2 fm T93.heap n0 (Nat.le_trans Z0 Ex94.1) (B.ext Ex94) (M.ext Ex94)) hZ (wq hw 108 rfl) (wq hw 38 rfl) (by decide) (by decide)) (g := (mkF m 23 #[vR ta, vI (0 : Int32), vI (3 : Int32), vR a90, vI (1 : Int32), .unset] [(.int (3 : Int32)), (.int (0 : Int32)), (.ref ta)])) rfl (by rw [hml]; rfl) (argsL := [(.ref ta), (.int (0 : Int32)), (.int (3 : Int32))]) (rest := []) (lenOf pd_11 rfl) rfl (by show 2 * 0 + _ ≤ _; exact Nat.le_of_eq rfl) (hb hby dc3_23) (fun _ _ => ⟨rfl, rfl, (by decide : 1 + 1 ≤ _), (by decide : 3 + 6 ≤ _)⟩)
    dsimp only [Pt.U, Pt.locs, Pt.cells, Pt.slots] at X99 l99 y99 z99 st99 hQ99
    subst l99 y99 z99
    obtain ⟨b99, kb99, rfl, Nq99, E99, le99_, V99⟩ := hQ99
    have N99 := Fr.app N93 Nq99
    have Ex100 : Ext h0 T99.heap := Ex94.tr E99
    have Ex101 : Ext T93.heap T99.heap := E99
    refine Rch.st st99 ?_
    show Rch p e below T99 (mkF m 26 #[vR ta, vI (0 : Int32), vI (3 : Int32), vR a90, vI (1 : Int32), .unset] [(.ref b99)]) _
    refine Rch.st (fun _ k => XS.astore X99.here hx rfl (hb hby dc3_26) rfl rfl (l' := #[vR ta, vI (0 : Int32), vI (3 : Int32), vR a90, vI (1 : Int32), vR b99]) rfl k) ?_
    refine Rch.st (fun _ k => XS.aload X99.here hx rfl (hb hby dc3_28) rfl rfl k) ?_
    show Rch p e below T99 (mkF m 30 #[vR ta, vI (0 : Int32), vI (3 : Int32), vR a90, vI (1 : Int32), vR b99] [(.ref b99)]) _
    refine Rch.st (fun _ k => XS.iload X99.here hx rfl (hb hby dc3_30) rfl k) ?_
    show Rch p e below T99 (mkF m 32 #[vR ta, vI (0 : Int32), vI (3 : Int32), vR a90, vI (1 : Int32), vR b99] [(.int (1 : Int32)), (.ref b99)]) _
    obtain ⟨_, _, ⟨T102, L102, k102, n102⟩, -, X102, ⟨Lc102, hQ102, l102, y102, z102⟩, st102⟩ := Jvm.LawKit.callS X99 hx (y := (⟨"java/lang/StringUTF16", "getChar", "([BI)C"⟩ : MethodName)) hown (mvT hZ (wq hw 122 rfl)) (mvT hZ (wq hw 123 rfl)) (mvT hZ (wq hw 38 rfl)) (mvT hZ (wq hw 124 rfl)) (by decide) (backOf (W := 0) (rm_getc l Z a0 hw [] b99 kb99 [c0, c1, c2] 1 fm T99.heap n0 (Nat.le_trans Z0 Ex100.1) (B.ext Ex100) hbd V99 (Nat.le_of_ble_eq_true rfl) (Nat.le_of_ble_eq_true rfl)) hZ (wq hw 124 rfl) (wq hw 38 rfl) (by decide) (by decide)) (g := (mkF m 32 #[vR ta, vI (0 : Int32), vI (3 : Int32), vR a90, vI (1 : Int32), vR b99] [(.int (1 : Int32)), (.ref b99)])) rfl (by rw [hml]; rfl) (argsL := [(.ref b99), (.int (1 : Int32))]) (rest := []) (lenOf pd_4 rfl) rfl (by show 2 * 0 + _ ≤ _; exact Nat.le_of_eq rfl) (hb hby dc3_32) (fun _ _ => ⟨rfl, rfl, (by decide : 2 + 0 ≤ _), (by decide : 9 + 0 ≤ _)⟩)
    dsimp only [Pt.U, Pt.locs, Pt.cells, Pt.slots] at X102 l102 y102 z102 st102 hQ102
    subst l102 y102 z102
    obtain ⟨rfl, Nq102, e102⟩ := hQ102
    have N102 := Fr.app N99 Nq102
    refine Rch.st st102 ?_
    show Rch p e below T102 (mkF m 35 #[vR ta, vI (0 : Int32), vI (3 : Int32), vR a90, vI (1 : Int32), vR b99] [(.int c1)]) _
    refine Rch.st (fun _ k => XS.sipush X102.here hx rfl (hb hby dc3_35)  k) ?_
    refine Rch.st (fun _ k => XS.icmpYes X102.here hx rfl (pc0 := 38) (pc' := 54) rfl (hb hby dc3_38) rfl (tlt hc).2.2.1 (by decide) (by decide) k) ?_
    show Rch p e below T102 (mkF m 54 #[vR ta, vI (0 : Int32), vI (3 : Int32), vR a90, vI (1 : Int32), vR b99] []) _
    refine Rch.st (fun _ k => XS.aload X102.here hx rfl (hb hby dc3_54) rfl rfl k) ?_
    show Rch p e below T102 (mkF m 56 #[vR ta, vI (0 : Int32), vI (3 : Int32), vR a90, vI (1 : Int32), vR b99] [(.ref b99)]) _
    exact Rch.fin (Q := Q_cthr3 Z ta ka c0 c1 c2 fm h0 n0) X102 (v := some (.ref b99)) (fun h => by rw [Bd.returns] at h; cases h) (BodyLoose.notSynchronized Bd) (fun fs hr => retR X102 hx Bd.returns rfl rfl (hb hby dc3_56) hr) (by rw [e102]; exact ⟨b99, kb99, rfl, N102, Ex100, Nat.le_trans Ex94.1 le99_, V99⟩) (by decide) (by decide)
  · skip
    show Rch p e below T93 (mkF m 12 #[vR ta, vI (0 : Int32), vI (3 : Int32), vR a90, .unset, .unset] [(.int (2 : Int32))]) _
    refine Rch.st (fun _ k => XS.istore X93.here hx rfl (hb hby dc3_12) rfl (l' := #[vR ta, vI (0 : Int32), vI (3 : Int32), vR a90, vI (2 : Int32), .unset]) rfl k) ?_
    refine Rch.st (fun _ k => XS.iload X93.here hx rfl (hb hby dc3_14) rfl k) ?_
    show Rch p e below T93 (mkF m 16 #[vR ta, vI (0 : Int32), vI (3 : Int32), vR a90, vI (2 : Int32), .unset] [(.int (2 : Int32))]) _
    refine Rch.st (fun _ k => XS.iloadN X93.here hx rfl (hb hby dc3_16) rfl k) ?_
    refine Rch.st (fun _ k => XS.icmpNo X93.here hx rfl (hb hby dc3_17) rfl (by decide : if_icmp.holds .eq (2 : Int32) (3 : Int32) = false) k) ?_
    show Rch p e below T93 (mkF m 20 #[vR ta, vI (0 : Int32), vI (3 : Int32), vR a90, vI (2 : Int32), .unset] []) _
    refine Rch.st (fun _ k => XS.aloadN X93.here hx rfl (hb hby dc3_20) rfl rfl k) ?_
    refine Rch.st (fun _ k => XS.iloadN X93.here hx rfl (hb hby dc3_21) rfl k) ?_
    show Rch p e below T93 (mkF m 22 #[vR ta, vI (0 : Int32), vI (3 : Int32), vR a90, vI (2 : Int32), .unset] [(.int (0 : Int32)), (.ref ta)]) _
    refine Rch.st (fun _ k => XS.iloadN X93.here hx rfl (hb hby dc3_22) rfl k) ?_
    show Rch p e below T93 (mkF m 23 #[vR ta, vI (0 : Int32), vI (3 : Int32), vR a90, vI (2 : Int32), .unset] [(.int (3 : Int32)), (.int (0 : Int32)), (.ref ta)]) _
    obtain ⟨_, _, ⟨T103, L103, k103, n103⟩, -, X103, ⟨Lc103, hQ103, l103, y103, z103⟩, st103⟩ := Jvm.LawKit.callS X93 hx (y := (⟨"java/lang/StringUTF16", "toBytes", "([CII)[B"⟩ : MethodName)) hown (mvT hZ (wq hw 106 rfl)) (mvT hZ (wq hw 107 rfl)) (mvT hZ (wq hw 38 rfl)) (mvT hZ (wq hw 108 rfl)) (by decide) (backOf (W := 0) (rm_toby3 l Z a0 hw [] ta ka c0 c1 c2 fm T93.heap n0 (Nat.le_trans Z0 Ex94.1) (B.ext Ex94) (M.ext Ex94)) hZ (wq hw 108 rfl) (wq hw 38 rfl) (by decide) (by decide)) (g := (mkF m 23 #[vR ta, vI (0 : Int32), vI (3 : Int32), vR a90, vI (2 : Int32), .unset] [(.int (3 : Int32)), (.int (0 : Int32)), (.ref ta)])) rfl (by rw [hml]; rfl) (argsL := [(.ref ta), (.int (0 : Int32)), (.int (3 : Int32))]) (rest := []) (lenOf pd_11 rfl) rfl (by show 2 * 0 + _ ≤ _; exact Nat.le_of_eq rfl) (hb hby dc3_23) (fun _ _ => ⟨rfl, rfl, (by decide : 1 + 1 ≤ _), (by decide : 3 + 6 ≤ _)⟩)
    dsimp only [Pt.U, Pt.locs, Pt.cells, Pt.slots] at X103 l103 y103 z103 st103 hQ103
    subst l103 y103 z103
    obtain ⟨b103, kb103, rfl, Nq103, E103, le103_, V103⟩ := hQ103
    have N103 := Fr.app N93 Nq103
    have Ex104 : Ext h0 T103.heap := Ex94.tr E103
    have Ex105 : Ext T93.heap T103.heap := E103
    refine Rch.st st103 ?_
    show Rch p e below T103 (mkF m 26 #[vR ta, vI (0 : Int32), vI (3 : Int32), vR a90, vI (2 : Int32), .unset] [(.ref b103)]) _
    refine Rch.st (fun _ k => XS.astore X103.here hx rfl (hb hby dc3_26) rfl rfl (l' := #[vR ta, vI (0 : Int32), vI (3 : Int32), vR a90, vI (2 : Int32), vR b103]) rfl k) ?_
    refine Rch.st (fun _ k => XS.aload X103.here hx rfl (hb hby dc3_28) rfl rfl k) ?_
    show Rch p e below T103 (mkF m 30 #[vR ta, vI (0 : Int32), vI (3 : Int32), vR a90, vI (2 : Int32), vR b103] [(.ref b103)]) _
    refine Rch.st (fun _ k => XS.iload X103.here hx rfl (hb hby dc3_30) rfl k) ?_
    show Rch p e below T103 (mkF m 32 #[vR ta, vI (0 : Int32), vI (3 : Int32), vR a90, vI (2 : Int32), vR b103] [(.int (2 : Int32)), (.ref b103)]) _
    obtain ⟨_, _, ⟨T106, L106, k106, n106⟩, -, X106, ⟨Lc106, hQ106, l106, y106, z106⟩, st106⟩ := Jvm.LawKit.callS X103 hx (y := (⟨"java/lang/StringUTF16", "getChar", "([BI)C"⟩ : MethodName)) hown (mvT hZ (wq hw 122 rfl)) (mvT hZ (wq hw 123 rfl)) (mvT hZ (wq hw 38 rfl)) (mvT hZ (wq hw 124 rfl)) (by decide) (backOf (W := 0) (rm_getc l Z a0 hw [] b103 kb103 [c0, c1, c2] 2 fm T103.heap n0 (Nat.le_trans Z0 Ex104.1) (B.ext Ex104) hbd V103 (Nat.le_of_ble_eq_true rfl) (Nat.le_of_ble_eq_true rfl)) hZ (wq hw 124 rfl) (wq hw 38 rfl) (by decide) (by decide)) (g := (mkF m 32 #[vR ta, vI (0 : Int32), vI (3 : Int32), vR a90, vI (2 : Int32), vR b103] [(.int (2 : Int32)), (.ref b103)])) rfl (by rw [hml]; rfl) (argsL := [(.ref b103), (.int (2 : Int32))]) (rest := []) (lenOf pd_4 rfl) rfl (by show 2 * 0 + _ ≤ _; exact Nat.le_of_eq rfl) (hb hby dc3_32) (fun _ _ => ⟨rfl, rfl, (by decide : 2 + 0 ≤ _), (by decide : 9 + 0 ≤ _)⟩)
    dsimp only [Pt.U, Pt.locs, Pt.cells, Pt.slots] at X106 l106 y106 z106 st106 hQ106
    subst l106 y106 z106
    obtain ⟨rfl, Nq106, e106⟩ := hQ106
    have N106 := Fr.app N103 Nq106
    refine Rch.st st106 ?_
    show Rch p e below T106 (mkF m 35 #[vR ta, vI (0 : Int32), vI (3 : Int32), vR a90, vI (2 : Int32), vR b103] [(.int c2)]) _
    refine Rch.st (fun _ k => XS.sipush X106.here hx rfl (hb hby dc3_35)  k) ?_
    refine Rch.st (fun _ k => XS.icmpYes X106.here hx rfl (pc0 := 38) (pc' := 54) rfl (hb hby dc3_38) rfl (tlt hc).2.2.1 (by decide) (by decide) k) ?_
    show Rch p e below T106 (mkF m 54 #[vR ta, vI (0 : Int32), vI (3 : Int32), vR a90, vI (2 : Int32), vR b103] []) _
    refine Rch.st (fun _ k => XS.aload X106.here hx rfl (hb hby dc3_54) rfl rfl k) ?_
    show Rch p e below T106 (mkF m 56 #[vR ta, vI (0 : Int32), vI (3 : Int32), vR a90, vI (2 : Int32), vR b103] [(.ref b103)]) _
    exact Rch.fin (Q := Q_cthr3 Z ta ka c0 c1 c2 fm h0 n0) X106 (v := some (.ref b103)) (fun h => by rw [Bd.returns] at h; cases h) (BodyLoose.notSynchronized Bd) (fun fs hr => retR X106 hx Bd.returns rfl rfl (hb hby dc3_56) hr) (by rw [e106]; exact ⟨b103, kb103, rfl, N106, Ex104, Nat.le_trans Ex94.1 le103_, V103⟩) (by decide) (by decide)
theorem pn_cthr4 : plainFor (⟨"java/lang/StringUTF16", "compress", "([CII)[B"⟩ : MethodName) = true := by first | exact plainFor_of_name (by first | (simp [plainName, overriddenIn]; done) | decide +kernel) | exact Jvm.Free.JP.mathPlain rfl (by decide +kernel)
theorem ef_cthr4 (m : MethodId) (x0 : Addr) (x1 : Int32) (x2 : Int32) : entryFrame m #[(.ref x0), (.int x1), (.int x2)] 6 = mkF m 0 #[vR x0, vI x1, vI x2, .unset, .unset, .unset] [] := by first | (simp [entryFrame, mkF, argsToLocals, Value.category]; done) | rfl
def Q_cthr4 (Z : State) (ta : Addr) (ka : ClassId) (c0 c1 c2 c3 : Int32) (fm : Value) (h0 : Heap) (n0 : Nat) (v : Option Value) (h : Heap) (L : List Loc) : Prop := ∃ b k, v = some (.ref b) ∧ Fr n0 L ∧ Ext h0 h ∧ h0.size ≤ b ∧ Arv Z h b k .byte (8 : Int32) (StrChars.Road.wideBytes [c0, c1, c2, c3]) (.int 0)
set_option maxRecDepth 65536 in
set_option maxHeartbeats 40000000 in
theorem rm_cthr4 (l : Launch) (Z : State) (a0 : Array Value) (hw : ∀ d ∈ tables_1, d.before a0 Z = true) (ws : List Jvm.Cond) (ta : Addr) (ka : ClassId) (c0 c1 c2 c3 : Int32) (fm : Value) (h0 : Heap) (n0 : Nat) (Z0 : n0 ≤ h0.size) (B : Bg Z h0 fm) (M : Arv Z h0 ta ka .char (4 : Int32) [(.int c0), (.int c1), (.int c2), (.int c3)] (.int 0)) (hbd : ∀ c ∈ ([c0, c1, c2, c3] : List Int32), ¬ c < 0 ∧ ¬ (65535 : Int32) < c) (hbig : (255 : Int32) < c0 ∨ (255 : Int32) < c1 ∨ (255 : Int32) < c2 ∨ (255 : Int32) < c3) :
    MetFree l (⟨"java/lang/StringUTF16", "compress", "([CII)[B"⟩ : MethodName) (head1 (Jvm.Cond.code (⟨"java/lang/StringUTF16", "compress", "([CII)[B"⟩ : MethodName) jdk_52_method_16_code 6 (some (.array .byte)) :: ws) ({ frames := 3, cells := 2, slots := 12, locals := 40 } : Room)) (fun a U => a = #[(.ref ta), (.int (0 : Int32)), (.int (4 : Int32))] ∧ Z.Warmed39 U.vm ∧ U.heap = h0) (fun _ _ _ _ _ => True) (fun _ U o U' => ∃ v L, o = .returned v ∧ Q_cthr4 Z ta ka c0 c1 c2 c3 fm h0 n0 v U'.heap L ∧ FrameEnd U o U' L ({ frames := 3, cells := 2, slots := 12, locals := 40 } : Room).cells ({ frames := 3, cells := 2, slots := 12, locals := 40 } : Room).slots) := by
  refine MetFree.of_bodySF pn_cthr4 hisR ?_
  intro p e s m args below meth c s₁ Bd hml0 hP hK
  obtain ⟨rfl, hZ, hh⟩ := hP
  have hx := Bd.exec
  have hby := Bd.bytes
  have hml : c.maxLocals = 6 := hml0
  have hown : s.vm.findClass "java/lang/StringUTF16" = some m.cls := findClass_of_methodNamed Bd.named
  have hnm := (name_of_methodNamed Bd.named Bd.method).1
  have X0 : Stand p l e ({ frames := 3, cells := 2, slots := 12, locals := 40 } : Room) s m #[(.ref ta), (.int (0 : Int32)), (.int (4 : Int32))] below meth c s₁ [] 0 0 := Stand.of_body Bd
  have e0 : s₁.heap = h0 := by rw [← hh, Bd.state]; rfl
  have N0 := Fr.nil n0
  show Rch p e below s₁ (entryFrame m #[(.ref ta), (.int (0 : Int32)), (.int (4 : Int32))] 6) (fun U o => ∃ v L, o = .returned v ∧ Q_cthr4 Z ta ka c0 c1 c2 c3 fm h0 n0 v U.heap L ∧ FrameEnd s o U L ({ frames := 3, cells := 2, slots := 12, locals := 40 } : Room).cells ({ frames := 3, cells := 2, slots := 12, locals := 40 } : Room).slots)
  refine Rch.cast (ef_cthr4 m ta (0 : Int32) (4 : Int32)) ?_
  show Rch p e below s₁ (mkF m 0 #[vR ta, vI (0 : Int32), vI (4 : Int32), .unset, .unset, .unset] []) _
  refine Rch.st (fun _ k => XS.iloadN X0.here hx rfl (hb hby dc3_0) rfl k) ?_
  show Rch p e below s₁ (mkF m 1 #[vR ta, vI (0 : Int32), vI (4 : Int32), .unset, .unset, .unset] [(.int (4 : Int32))]) _
  obtain ⟨T125, h125, k125, X125, e125, E125, A125, st125⟩ := newP X0 hx hZ (wq hw 15 rfl) e0 (g := (mkF m 1 #[vR ta, vI (0 : Int32), vI (4 : Int32), .unset, .unset, .unset] [(.int (4 : Int32))])) rfl (hb hby dc3_1) rfl (by decide : ¬ ((4 : Int32) < (0 : Int32))) (cap := 4) (by decide : ((4 : Int32)).toNatClampNeg ≤ 4) (by decide) (by decide) (by decide)
  obtain ⟨a125, g125⟩ : ∃ z, z = h0.size := ⟨_, rfl⟩
  rw [← g125] at A125 st125
  have Ex126 : Ext h0 h125 := E125
  have le127 : h0.size ≤ a125 := Nat.le_of_eq g125.symm
  refine Rch.st st125 ?_
  show Rch p e below T125 (mkF m 3 #[vR ta, vI (0 : Int32), vI (4 : Int32), .unset, .unset, .unset] [(.ref a125)]) _
  have V125 : Arv Z h125 a125 k125 .byte (4 : Int32) [(.int (0 : Int32)), (.int (0 : Int32)), (.int (0 : Int32)), (.int (0 : Int32))] (.int (0 : Int32)) := (Arv.new A125 (by decide : ¬ ((4 : Int32) < (0 : Int32)))).pad (pad_rep [] (.int (0 : Int32)) 4)
  refine Rch.st (fun _ k => XS.astoreN X125.here hx rfl (hb hby dc3_3) rfl rfl (l' := #[vR ta, vI (0 : Int32), vI (4 : Int32), vR a125, .unset, .unset]) rfl k) ?_
  refine Rch.st (fun _ k => XS.aloadN X125.here hx rfl (hb hby dc3_4) rfl rfl k) ?_
  show Rch p e below T125 (mkF m 5 #[vR ta, vI (0 : Int32), vI (4 : Int32), vR a125, .unset, .unset] [(.ref ta)]) _
  refine Rch.st (fun _ k => XS.iloadN X125.here hx rfl (hb hby dc3_5) rfl k) ?_
  refine Rch.st (fun _ k => XS.aloadN X125.here hx rfl (hb hby dc3_6) rfl rfl k) ?_
  show Rch p e below T125 (mkF m 7 #[vR ta, vI (0 : Int32), vI (4 : Int32), vR a125, .unset, .unset] [(.ref a125), (.int (0 : Int32)), (.ref ta)]) _
  refine Rch.st (fun _ k => XS.iconst X125.here hx rfl (hb hby dc3_7)  k) ?_
  refine Rch.st (fun _ k => XS.iloadN X125.here hx rfl (hb hby dc3_8) rfl k) ?_
  show Rch p e below T125 (mkF m 9 #[vR ta, vI (0 : Int32), vI (4 : Int32), vR a125, .unset, .unset] [(.int (4 : Int32)), (.int (0 : Int32)), (.ref a125), (.int (0 : Int32)), (.ref ta)]) _
  have ned : ta ≠ a125 := Nat.ne_of_lt (Nat.lt_of_lt_of_le M.lt le127)
  obtain ⟨_, _, ⟨T128, L128, k128, n128⟩, -, X128, ⟨Lc128, hQ128, l128, y128, z128⟩, st128⟩ := Jvm.LawKit.callS X125 hx (y := (⟨"java/lang/StringUTF16", "compress", "([CI[BII)I"⟩ : MethodName)) hown (mvT hZ (wq hw 40 rfl)) (mvT hZ (wq hw 41 rfl)) (mvT hZ (wq hw 38 rfl)) (mvT hZ (wq hw 42 rfl)) (by decide) (backOf (W := 0) (rm_cmp4 l Z a0 hw [] ta a125 ka k125 c0 c1 c2 c3 h125 n0 (Nat.le_trans Z0 Ex126.1) (Nat.le_trans Z0 le127) ned (M.ext Ex126) V125 hbig) hZ (wq hw 42 rfl) (wq hw 38 rfl) (by decide) (by decide)) (g := (mkF m 9 #[vR ta, vI (0 : Int32), vI (4 : Int32), vR a125, .unset, .unset] [(.int (4 : Int32)), (.int (0 : Int32)), (.ref a125), (.int (0 : Int32)), (.ref ta)])) rfl (by rw [hml]; rfl) (argsL := [(.ref ta), (.int (0 : Int32)), (.ref a125), (.int (0 : Int32)), (.int (4 : Int32))]) (rest := []) (lenOf pd_10 rfl) rfl (by show 2 * 0 + _ ≤ _; exact Nat.le_of_eq rfl) (hb hby dc3_9) (fun _ _ => ⟨rfl, e125, (by decide : 1 + 0 ≤ _), (by decide : 4 + 0 ≤ _)⟩)
  dsimp only [Pt.U, Pt.locs, Pt.cells, Pt.slots] at X128 l128 y128 z128 st128 hQ128
  subst l128 y128 z128
  obtain ⟨r128, rfl, Nq128, K128, hr128⟩ := hQ128
  have N128 := Fr.app N0 Nq128
  have Ex129 : Ext h0 T128.heap := extKeep1 Ex126 K128 le127
  refine Rch.st st128 ?_
  show Rch p e below T128 (mkF m 12 #[vR ta, vI (0 : Int32), vI (4 : Int32), vR a125, .unset, .unset] [(.int r128)]) _
  rcases hr128 with ⟨rfl, hc⟩ | ⟨rfl, hc⟩ | ⟨rfl, hc⟩ | ⟨rfl, hc⟩
  · skip
    show Rch p e below T128 (mkF m 12 #[vR ta, vI (0 : Int32), vI (4 : Int32), vR a125, .unset, .unset] [(.int (0 : Int32))]) _
    refine Rch.st (fun _ k => XS.istore X128.here hx rfl (hb hby dc3_12) rfl (l' := #[vR ta, vI (0 : Int32), vI (4 : Int32), vR a125, vI (0 : Int32), .unset]) rfl k) ?_
    refine Rch.st (fun _ k => XS.iload X128.here hx rfl (hb hby dc3_14) rfl k) ?_
    show Rch p e below T128 (mkF m 16 #[vR ta, vI (0 : Int32), vI (4 : Int32), vR a125, vI (0 : Int32), .unset] [(.int (0 : Int32))]) _
    refine Rch.st (fun _ k => XS.iloadN X128.here hx rfl (hb hby dc3_16) rfl k) ?_
    refine Rch.st (fun _ k => XS.icmpNo X128.here hx rfl (hb hby dc3_17) rfl (by decide : if_icmp.holds .eq (0 : Int32) (4 : Int32) = false) k) ?_
    show Rch p e below T128 (mkF m 20 #[vR ta, vI (0 : Int32), vI (4 : Int32), vR a125, vI (0 : Int32), .unset] []) _
    refine Rch.st (fun _ k => XS.aloadN X128.here hx rfl (hb hby dc3_20) rfl rfl k) ?_
    refine Rch.st (fun _ k => XS.iloadN X128.here hx rfl (hb hby dc3_21) rfl k) ?_
    show Rch p e below T128 (mkF m 22 #[vR ta, vI (0 : Int32), vI (4 : Int32), vR a125, vI (0 : Int32), .unset] [(.int (0 : Int32)), (.ref ta)]) _
    refine Rch.st (fun _ k => XS.iloadN X128.here hx rfl (hb hby dc3_22) rfl k) ?_
    show Rch p e below T128 (mkF m 23 #[vR ta, vI (0 : Int32), vI (4 : Int32), vR a125, vI (0 : Int32), .unset] [(.int (4 : Int32)), (.int (0 : Int32)), (.ref ta)]) _
    obtain ⟨_, _, ⟨T130, L130, k130, n130⟩, -, X130, ⟨Lc130, hQ130, l130, y130, z130⟩, st130⟩ := Jvm.LawKit.callS X128 hx (y := (⟨"java/lang/StringUTF16", "toBytes", "([CII)[B"⟩ : MethodName)) hown (mvT hZ (wq hw 106 rfl)) (mvT hZ (wq hw 107 rfl)) (mvT hZ (wq hw 38 rfl)) (mvT hZ (wq hw 108 rfl)) (by decide) (backOf (W := 0) (rm_toby4 l Z a0 hw [] ta ka c0 c1 c2 c3 fm T128.heap n0 (Nat.le_trans Z0 Ex129.1) (B.ext Ex129) (M.ext Ex129)) hZ (wq hw 108 rfl) (wq hw 38 rfl) (by decide) (by decide)) (g := (mkF m 23 #[vR ta, vI (0 : Int32), vI (4 : Int32), vR a125, vI (0 : Int32), .unset] [(.int (4 : Int32)), (.int (0 : Int32)), (.ref ta)])) rfl (by rw [hml]; rfl) (argsL := [(.ref ta), (.int (0 : Int32)), (.int (4 : Int32))]) (rest := []) (lenOf pd_11 rfl) rfl (by show 2 * 0 + _ ≤ _; exact Nat.le_of_eq rfl) (hb hby dc3_23) (fun _ _ => ⟨rfl, rfl, (by decide : 1 + 1 ≤ _), (by decide : 4 + 8 ≤ _)⟩)
    dsimp only [Pt.U, Pt.locs, Pt.cells, Pt.slots] at X130 l130 y130 z130 st130 hQ130
    subst l130 y130 z130
    obtain ⟨b130, kb130, rfl, Nq130, E130, le130_, V130⟩ := hQ130
    have N130 := Fr.app N128 Nq130
    have Ex131 : Ext h0 T130.heap := Ex129.tr E130
    have Ex132 : Ext T128.heap T130.heap := E130
    refine Rch.st st130 ?_
    show Rch p e below T130 (mkF m 26 #[vR ta, vI (0 : Int32), vI (4 : Int32), vR a125, vI (0 : Int32), .unset] [(.ref b130)]) _
    refine Rch.st (fun _ k => XS.astore X130.here hx rfl (hb hby dc3_26) rfl rfl (l' := #[vR ta, vI (0 : Int32), vI (4 : Int32), vR a125, vI (0 : Int32), vR b130]) rfl k) ?_
    refine Rch.st (fun _ k => XS.aload X130.here hx rfl (hb hby dc3_28) rfl rfl k) ?_
    show Rch p e below T130 (mkF m 30 #[vR ta, vI (0 : Int32), vI (4 : Int32), vR a125, vI (0 : Int32), vR b130] [(.ref b130)]) _
    refine Rch.st (fun _ k => XS.iload X130.here hx rfl (hb hby dc3_30) rfl k) ?_
    show Rch p e below T130 (mkF m 32 #[vR ta, vI (0 : Int32), vI (4 : Int32), vR a125, vI (0 : Int32), vR b130] [(.int (0 : Int32)), (.ref b130)]) _
    obtain ⟨_, _, ⟨T133, L133, k133, n133⟩, -, X133, ⟨Lc133, hQ133, l133, y133, z133⟩, st133⟩ := Jvm.LawKit.callS X130 hx (y := (⟨"java/lang/StringUTF16", "getChar", "([BI)C"⟩ : MethodName)) hown (mvT hZ (wq hw 122 rfl)) (mvT hZ (wq hw 123 rfl)) (mvT hZ (wq hw 38 rfl)) (mvT hZ (wq hw 124 rfl)) (by decide) (backOf (W := 0) (rm_getc l Z a0 hw [] b130 kb130 [c0, c1, c2, c3] 0 fm T130.heap n0 (Nat.le_trans Z0 Ex131.1) (B.ext Ex131) hbd V130 (Nat.le_of_ble_eq_true rfl) (Nat.le_of_ble_eq_true rfl)) hZ (wq hw 124 rfl) (wq hw 38 rfl) (by decide) (by decide)) (g := (mkF m 32 #[vR ta, vI (0 : Int32), vI (4 : Int32), vR a125, vI (0 : Int32), vR b130] [(.int (0 : Int32)), (.ref b130)])) rfl (by rw [hml]; rfl) (argsL := [(.ref b130), (.int (0 : Int32))]) (rest := []) (lenOf pd_4 rfl) rfl (by show 2 * 0 + _ ≤ _; exact Nat.le_of_eq rfl) (hb hby dc3_32) (fun _ _ => ⟨rfl, rfl, (by decide : 2 + 0 ≤ _), (by decide : 12 + 0 ≤ _)⟩)
    dsimp only [Pt.U, Pt.locs, Pt.cells, Pt.slots] at X133 l133 y133 z133 st133 hQ133
    subst l133 y133 z133
    obtain ⟨rfl, Nq133, e133⟩ := hQ133
    have N133 := Fr.app N130 Nq133
    refine Rch.st st133 ?_
    show Rch p e below T133 (mkF m 35 #[vR ta, vI (0 : Int32), vI (4 : Int32), vR a125, vI (0 : Int32), vR b130] [(.int c0)]) _
    refine Rch.st (fun _ k => XS.sipush X133.here hx rfl (hb hby dc3_35)  k) ?_
    refine Rch.st (fun _ k => XS.icmpYes X133.here hx rfl (pc0 := 38) (pc' := 54) rfl (hb hby dc3_38) rfl (tlt hc).2.2.1 (by decide) (by decide) k) ?_
    show Rch p e below T133 (mkF m 54 #[vR ta, vI (0 : Int32), vI (4 : Int32), vR a125, vI (0 : Int32), vR b130] []) _
    refine Rch.st (fun _ k => XS.aload X133.here hx rfl (hb hby dc3_54) rfl rfl k) ?_
    show Rch p e below T133 (mkF m 56 #[vR ta, vI (0 : Int32), vI (4 : Int32), vR a125, vI (0 : Int32), vR b130] [(.ref b130)]) _
    exact Rch.fin (Q := Q_cthr4 Z ta ka c0 c1 c2 c3 fm h0 n0) X133 (v := some (.ref b130)) (fun h => by rw [Bd.returns] at h; cases h) (BodyLoose.notSynchronized Bd) (fun fs hr => retR X133 hx Bd.returns rfl rfl (hb hby dc3_56) hr) (by rw [e133]; exact ⟨b130, kb130, rfl, N133, Ex131, Nat.le_trans Ex129.1 le130_, V130⟩) (by decide) (by decide)
  · skip
    show Rch p e below T128 (mkF m 12 #[vR ta, vI (0 : Int32), vI (4 : Int32), vR a125, .unset, .unset] [(.int (1 : Int32))]) _
    refine Rch.st (fun _ k => XS.istore X128.here hx rfl (hb hby dc3_12) rfl (l' := #[vR ta, vI (0 : Int32), vI (4 : Int32), vR a125, vI (1 : Int32), .unset]) rfl k) ?_
    refine Rch.st (fun _ k => XS.iload X128.here hx rfl (hb hby dc3_14) rfl k) ?_
    show Rch p e below T128 (mkF m 16 #[vR ta, vI (0 : Int32), vI (4 : Int32), vR a125, vI (1 : Int32), .unset] [(.int (1 : Int32))]) _
    refine Rch.st (fun _ k => XS.iloadN X128.here hx rfl (hb hby dc3_16) rfl k) ?_
    refine Rch.st (fun _ k => XS.icmpNo X128.here hx rfl (hb hby dc3_17) rfl (by decide : if_icmp.holds .eq (1 : Int32) (4 : Int32) = false) k) ?_
    show Rch p e below T128 (mkF m 20 #[vR ta, vI (0 : Int32), vI (4 : Int32), vR a125, vI (1 : Int32), .unset] []) _
    refine Rch.st (fun _ k => XS.aloadN X128.here hx rfl (hb hby dc3_20) rfl rfl k) ?_
    refine Rch.st (fun _ k => XS.iloadN X128.here hx rfl (hb hby dc3_21) rfl k) ?_
    show Rch p e below T128 (mkF m 22 #[vR ta, vI (0 : Int32), vI (4 : Int32), vR a125, vI (1 : Int32), .unset] [(.int (0 : Int32)), (.ref ta)]) _
    refine Rch.st (fun _ k => XS.iloadN X128.here hx rfl (hb hby dc3_22) rfl k) ?_
    show Rch p e below T128 (mkF m 23 #[vR ta, vI (0 : Int32), vI (4 : Int32), vR a125, vI (1 : Int32), .unset] [(.int (4 : Int32)), (.int (0 : Int32)), (.ref ta)]) _
    obtain ⟨_, _, ⟨T134, L134, k134, n134⟩, -, X134, ⟨Lc134, hQ134, l134, y134, z134⟩, st134⟩ := Jvm.LawKit.callS X128 hx (y := (⟨"java/lang/StringUTF16", "toBytes", "([CII)[B"⟩ : MethodName)) hown (mvT hZ (wq hw 106 rfl)) (mvT hZ (wq hw 107 rfl)) (mvT hZ (wq hw 38 rfl)) (mvT hZ (wq hw 108 rfl)) (by decide) (backOf (W := 0) (rm_toby4 l Z a0 hw [] ta ka c0 c1 c2 c3 fm T128.heap n0 (Nat.le_trans Z0 Ex129.1) (B.ext Ex129) (M.ext Ex129)) hZ (wq hw 108 rfl) (wq hw 38 rfl) (by decide) (by decide)) (g := (mkF m 23 #[vR ta, vI (0 : Int32), vI (4 : Int32), vR a125, vI (1 : Int32), .unset] [(.int (4 : Int32)), (.int (0 : Int32)), (.ref ta)])) rfl (by rw [hml]; rfl) (argsL := [(.ref ta), (.int (0 : Int32)), (.int (4 : Int32))]) (rest := []) (lenOf pd_11 rfl) rfl (by show 2 * 0 + _ ≤ _; exact Nat.le_of_eq rfl) (hb hby dc3_23) (fun _ _ => ⟨rfl, rfl, (by decide : 1 + 1 ≤ _), (by decide : 4 + 8 ≤ _)⟩)
    dsimp only [Pt.U, Pt.locs, Pt.cells, Pt.slots] at X134 l134 y134 z134 st134 hQ134
    subst l134 y134 z134
    obtain ⟨b134, kb134, rfl, Nq134, E134, le134_, V134⟩ := hQ134
    have N134 := Fr.app N128 Nq134
    have Ex135 : Ext h0 T134.heap := Ex129.tr E134
    have Ex136 : Ext T128.heap T134.heap := E134
    refine Rch.st st134 ?_
    show Rch p e below T134 (mkF m 26 #[vR ta, vI (0 : Int32), vI (4 : Int32), vR a125, vI (1 : Int32), .unset] [(.ref b134)]) _
    refine Rch.st (fun _ k => XS.astore X134.here hx rfl (hb hby dc3_26) rfl rfl (l' := #[vR ta, vI (0 : Int32), vI (4 : Int32), vR a125, vI (1 : Int32), vR b134]) rfl k) ?_
    refine Rch.st (fun _ k => XS.aload X134.here hx rfl (hb hby dc3_28) rfl rfl k) ?_
    show Rch p e below T134 (mkF m 30 #[vR ta, vI (0 : Int32), vI (4 : Int32), vR a125, vI (1 : Int32), vR b134] [(.ref b134)]) _
    refine Rch.st (fun _ k => XS.iload X134.here hx rfl (hb hby dc3_30) rfl k) ?_
    show Rch p e below T134 (mkF m 32 #[vR ta, vI (0 : Int32), vI (4 : Int32), vR a125, vI (1 : Int32), vR b134] [(.int (1 : Int32)), (.ref b134)]) _
    obtain ⟨_, _, ⟨T137, L137, k137, n137⟩, -, X137, ⟨Lc137, hQ137, l137, y137, z137⟩, st137⟩ := Jvm.LawKit.callS X134 hx (y := (⟨"java/lang/StringUTF16", "getChar", "([BI)C"⟩ : MethodName)) hown (mvT hZ (wq hw 122 rfl)) (mvT hZ (wq hw 123 rfl)) (mvT hZ (wq hw 38 rfl)) (mvT hZ (wq hw 124 rfl)) (by decide) (backOf (W := 0) (rm_getc l Z a0 hw [] b134 kb134 [c0, c1, c2, c3] 1 fm T134.heap n0 (Nat.le_trans Z0 Ex135.1) (B.ext Ex135) hbd V134 (Nat.le_of_ble_eq_true rfl) (Nat.le_of_ble_eq_true rfl)) hZ (wq hw 124 rfl) (wq hw 38 rfl) (by decide) (by decide)) (g := (mkF m 32 #[vR ta, vI (0 : Int32), vI (4 : Int32), vR a125, vI (1 : Int32), vR b134] [(.int (1 : Int32)), (.ref b134)])) rfl (by rw [hml]; rfl) (argsL := [(.ref b134), (.int (1 : Int32))]) (rest := []) (lenOf pd_4 rfl) rfl (by show 2 * 0 + _ ≤ _; exact Nat.le_of_eq rfl) (hb hby dc3_32) (fun _ _ => ⟨rfl, rfl, (by decide : 2 + 0 ≤ _), (by decide : 12 + 0 ≤ _)⟩)
    dsimp only [Pt.U, Pt.locs, Pt.cells, Pt.slots] at X137 l137 y137 z137 st137 hQ137
    subst l137 y137 z137
    obtain ⟨rfl, Nq137, e137⟩ := hQ137
    have N137 := Fr.app N134 Nq137
    refine Rch.st st137 ?_
    show Rch p e below T137 (mkF m 35 #[vR ta, vI (0 : Int32), vI (4 : Int32), vR a125, vI (1 : Int32), vR b134] [(.int c1)]) _
    refine Rch.st (fun _ k => XS.sipush X137.here hx rfl (hb hby dc3_35)  k) ?_
    refine Rch.st (fun _ k => XS.icmpYes X137.here hx rfl (pc0 := 38) (pc' := 54) rfl (hb hby dc3_38) rfl (tlt hc).2.2.1 (by decide) (by decide) k) ?_
    show Rch p e below T137 (mkF m 54 #[vR ta, vI (0 : Int32), vI (4 : Int32), vR a125, vI (1 : Int32), vR b134] []) _
    refine Rch.st (fun _ k => XS.aload X137.here hx rfl (hb hby dc3_54) rfl rfl k) ?_
    show Rch p e below T137 (mkF m 56 #[vR ta, vI (0 : Int32), vI (4 : Int32), vR a125, vI (1 : Int32), vR b134] [(.ref b134)]) _
    exact Rch.fin (Q := Q_cthr4 Z ta ka c0 c1 c2 c3 fm h0 n0) X137 (v := some (.ref b134)) (fun h => by rw [Bd.returns] at h; cases h) (BodyLoose.notSynchronized Bd) (fun fs hr => retR X137 hx Bd.returns rfl rfl (hb hby dc3_56) hr) (by rw [e137]; exact ⟨b134, kb134, rfl, N137, Ex135, Nat.le_trans Ex129.1 le134_, V134⟩) (by decide) (by decide)
  · skip
    show Rch p e below T128 (mkF m 12 #[vR ta, vI (0 : Int32), vI (4 : Int32), vR a125, .unset, .unset] [(.int (2 : Int32))]) _
    refine Rch.st (fun _ k => XS.istore X128.here hx rfl (hb hby dc3_12) rfl (l' := #[vR ta, vI (0 : Int32), vI (4 : Int32), vR a125, vI (2 : Int32), .unset]) rfl k) ?_
    refine Rch.st (fun _ k => XS.iload X128.here hx rfl (hb hby dc3_14) rfl k) ?_
    show Rch p e below T128 (mkF m 16 #[vR ta, vI (0 : Int32), vI (4 : Int32), vR a125, vI (2 : Int32), .unset] [(.int (2 : Int32))]) _
    refine Rch.st (fun _ k => XS.iloadN X128.here hx rfl (hb hby dc3_16) rfl k) ?_
    refine Rch.st (fun _ k => XS.icmpNo X128.here hx rfl (hb hby dc3_17) rfl (by decide : if_icmp.holds .eq (2 : Int32) (4 : Int32) = false) k) ?_
    show Rch p e below T128 (mkF m 20 #[vR ta, vI (0 : Int32), vI (4 : Int32), vR a125, vI (2 : Int32), .unset] []) _
    refine Rch.st (fun _ k => XS.aloadN X128.here hx rfl (hb hby dc3_20) rfl rfl k) ?_
    refine Rch.st (fun _ k => XS.iloadN X128.here hx rfl (hb hby dc3_21) rfl k) ?_
    show Rch p e below T128 (mkF m 22 #[vR ta, vI (0 : Int32), vI (4 : Int32), vR a125, vI (2 : Int32), .unset] [(.int (0 : Int32)), (.ref ta)]) _
    refine Rch.st (fun _ k => XS.iloadN X128.here hx rfl (hb hby dc3_22) rfl k) ?_
    show Rch p e below T128 (mkF m 23 #[vR ta, vI (0 : Int32), vI (4 : Int32), vR a125, vI (2 : Int32), .unset] [(.int (4 : Int32)), (.int (0 : Int32)), (.ref ta)]) _
    obtain ⟨_, _, ⟨T138, L138, k138, n138⟩, -, X138, ⟨Lc138, hQ138, l138, y138, z138⟩, st138⟩ := Jvm.LawKit.callS X128 hx (y := (⟨"java/lang/StringUTF16", "toBytes", "([CII)[B"⟩ : MethodName)) hown (mvT hZ (wq hw 106 rfl)) (mvT hZ (wq hw 107 rfl)) (mvT hZ (wq hw 38 rfl)) (mvT hZ (wq hw 108 rfl)) (by decide) (backOf (W := 0) (rm_toby4 l Z a0 hw [] ta ka c0 c1 c2 c3 fm T128.heap n0 (Nat.le_trans Z0 Ex129.1) (B.ext Ex129) (M.ext Ex129)) hZ (wq hw 108 rfl) (wq hw 38 rfl) (by decide) (by decide)) (g := (mkF m 23 #[vR ta, vI (0 : Int32), vI (4 : Int32), vR a125, vI (2 : Int32), .unset] [(.int (4 : Int32)), (.int (0 : Int32)), (.ref ta)])) rfl (by rw [hml]; rfl) (argsL := [(.ref ta), (.int (0 : Int32)), (.int (4 : Int32))]) (rest := []) (lenOf pd_11 rfl) rfl (by show 2 * 0 + _ ≤ _; exact Nat.le_of_eq rfl) (hb hby dc3_23) (fun _ _ => ⟨rfl, rfl, (by decide : 1 + 1 ≤ _), (by decide : 4 + 8 ≤ _)⟩)
    dsimp only [Pt.U, Pt.locs, Pt.cells, Pt.slots] at X138 l138 y138 z138 st138 hQ138
    subst l138 y138 z138
    obtain ⟨b138, kb138, rfl, Nq138, E138, le138_, V138⟩ := hQ138
    have N138 := Fr.app N128 Nq138
    have Ex139 : Ext h0 T138.heap := Ex129.tr E138
    have Ex140 : Ext T128.heap T138.heap := E138
    refine Rch.st st138 ?_
    show Rch p e below T138 (mkF m 26 #[vR ta, vI (0 : Int32), vI (4 : Int32), vR a125, vI (2 : Int32), .unset] [(.ref b138)]) _
    refine Rch.st (fun _ k => XS.astore X138.here hx rfl (hb hby dc3_26) rfl rfl (l' := #[vR ta, vI (0 : Int32), vI (4 : Int32), vR a125, vI (2 : Int32), vR b138]) rfl k) ?_
    refine Rch.st (fun _ k => XS.aload X138.here hx rfl (hb hby dc3_28) rfl rfl k) ?_
    show Rch p e below T138 (mkF m 30 #[vR ta, vI (0 : Int32), vI (4 : Int32), vR a125, vI (2 : Int32), vR b138] [(.ref b138)]) _
    refine Rch.st (fun _ k => XS.iload X138.here hx rfl (hb hby dc3_30) rfl k) ?_
    show Rch p e below T138 (mkF m 32 #[vR ta, vI (0 : Int32), vI (4 : Int32), vR a125, vI (2 : Int32), vR b138] [(.int (2 : Int32)), (.ref b138)]) _
    obtain ⟨_, _, ⟨T141, L141, k141, n141⟩, -, X141, ⟨Lc141, hQ141, l141, y141, z141⟩, st141⟩ := Jvm.LawKit.callS X138 hx (y := (⟨"java/lang/StringUTF16", "getChar", "([BI)C"⟩ : MethodName)) hown (mvT hZ (wq hw 122 rfl)) (mvT hZ (wq hw 123 rfl)) (mvT hZ (wq hw 38 rfl)) (mvT hZ (wq hw 124 rfl)) (by decide) (backOf (W := 0) (rm_getc l Z a0 hw [] b138 kb138 [c0, c1, c2, c3] 2 fm T138.heap n0 (Nat.le_trans Z0 Ex139.1) (B.ext Ex139) hbd V138 (Nat.le_of_ble_eq_true rfl) (Nat.le_of_ble_eq_true rfl)) hZ (wq hw 124 rfl) (wq hw 38 rfl) (by decide) (by decide)) (g := (mkF m 32 #[vR ta, vI (0 : Int32), vI (4 : Int32), vR a125, vI (2 : Int32), vR b138] [(.int (2 : Int32)), (.ref b138)])) rfl (by rw [hml]; rfl) (argsL := [(.ref b138), (.int (2 : Int32))]) (rest := []) (lenOf pd_4 rfl) rfl (by show 2 * 0 + _ ≤ _; exact Nat.le_of_eq rfl) (hb hby dc3_32) (fun _ _ => ⟨rfl, rfl, (by decide : 2 + 0 ≤ _), (by decide : 12 + 0 ≤ _)⟩)
    dsimp only [Pt.U, Pt.locs, Pt.cells, Pt.slots] at X141 l141 y141 z141 st141 hQ141
    subst l141 y141 z141
    obtain ⟨rfl, Nq141, e141⟩ := hQ141
    have N141 := Fr.app N138 Nq141
    refine Rch.st st141 ?_
    show Rch p e below T141 (mkF m 35 #[vR ta, vI (0 : Int32), vI (4 : Int32), vR a125, vI (2 : Int32), vR b138] [(.int c2)]) _
    refine Rch.st (fun _ k => XS.sipush X141.here hx rfl (hb hby dc3_35)  k) ?_
    refine Rch.st (fun _ k => XS.icmpYes X141.here hx rfl (pc0 := 38) (pc' := 54) rfl (hb hby dc3_38) rfl (tlt hc).2.2.1 (by decide) (by decide) k) ?_
    show Rch p e below T141 (mkF m 54 #[vR ta, vI (0 : Int32), vI (4 : Int32), vR a125, vI (2 : Int32), vR b138] []) _
    refine Rch.st (fun _ k => XS.aload X141.here hx rfl (hb hby dc3_54) rfl rfl k) ?_
    show Rch p e below T141 (mkF m 56 #[vR ta, vI (0 : Int32), vI (4 : Int32), vR a125, vI (2 : Int32), vR b138] [(.ref b138)]) _
    exact Rch.fin (Q := Q_cthr4 Z ta ka c0 c1 c2 c3 fm h0 n0) X141 (v := some (.ref b138)) (fun h => by rw [Bd.returns] at h; cases h) (BodyLoose.notSynchronized Bd) (fun fs hr => retR X141 hx Bd.returns rfl rfl (hb hby dc3_56) hr) (by rw [e141]; exact ⟨b138, kb138, rfl, N141, Ex139, Nat.le_trans Ex129.1 le138_, V138⟩) (by decide) (by decide)
  · skip
    show Rch p e below T128 (mkF m 12 #[vR ta, vI (0 : Int32), vI (4 : Int32), vR a125, .unset, .unset] [(.int (3 : Int32))]) _
    refine Rch.st (fun _ k => XS.istore X128.here hx rfl (hb hby dc3_12) rfl (l' := #[vR ta, vI (0 : Int32), vI (4 : Int32), vR a125, vI (3 : Int32), .unset]) rfl k) ?_
    refine Rch.st (fun _ k => XS.iload X128.here hx rfl (hb hby dc3_14) rfl k) ?_
    show Rch p e below T128 (mkF m 16 #[vR ta, vI (0 : Int32), vI (4 : Int32), vR a125, vI (3 : Int32), .unset] [(.int (3 : Int32))]) _
    refine Rch.st (fun _ k => XS.iloadN X128.here hx rfl (hb hby dc3_16) rfl k) ?_
    refine Rch.st (fun _ k => XS.icmpNo X128.here hx rfl (hb hby dc3_17) rfl (by decide : if_icmp.holds .eq (3 : Int32) (4 : Int32) = false) k) ?_
    show Rch p e below T128 (mkF m 20 #[vR ta, vI (0 : Int32), vI (4 : Int32), vR a125, vI (3 : Int32), .unset] []) _
    refine Rch.st (fun _ k => XS.aloadN X128.here hx rfl (hb hby dc3_20) rfl rfl k) ?_
    refine Rch.st (fun _ k => XS.iloadN X128.here hx rfl (hb hby dc3_21) rfl k) ?_
    show Rch p e below T128 (mkF m 22 #[vR ta, vI (0 : Int32), vI (4 : Int32), vR a125, vI (3 : Int32), .unset] [(.int (0 : Int32)), (.ref ta)]) _
    refine Rch.st (fun _ k => XS.iloadN X128.here hx rfl (hb hby dc3_22) rfl k) ?_
    show Rch p e below T128 (mkF m 23 #[vR ta, vI (0 : Int32), vI (4 : Int32), vR a125, vI (3 : Int32), .unset] [(.int (4 : Int32)), (.int (0 : Int32)), (.ref ta)]) _
    obtain ⟨_, _, ⟨T142, L142, k142, n142⟩, -, X142, ⟨Lc142, hQ142, l142, y142, z142⟩, st142⟩ := Jvm.LawKit.callS X128 hx (y := (⟨"java/lang/StringUTF16", "toBytes", "([CII)[B"⟩ : MethodName)) hown (mvT hZ (wq hw 106 rfl)) (mvT hZ (wq hw 107 rfl)) (mvT hZ (wq hw 38 rfl)) (mvT hZ (wq hw 108 rfl)) (by decide) (backOf (W := 0) (rm_toby4 l Z a0 hw [] ta ka c0 c1 c2 c3 fm T128.heap n0 (Nat.le_trans Z0 Ex129.1) (B.ext Ex129) (M.ext Ex129)) hZ (wq hw 108 rfl) (wq hw 38 rfl) (by decide) (by decide)) (g := (mkF m 23 #[vR ta, vI (0 : Int32), vI (4 : Int32), vR a125, vI (3 : Int32), .unset] [(.int (4 : Int32)), (.int (0 : Int32)), (.ref ta)])) rfl (by rw [hml]; rfl) (argsL := [(.ref ta), (.int (0 : Int32)), (.int (4 : Int32))]) (rest := []) (lenOf pd_11 rfl) rfl (by show 2 * 0 + _ ≤ _; exact Nat.le_of_eq rfl) (hb hby dc3_23) (fun _ _ => ⟨rfl, rfl, (by decide : 1 + 1 ≤ _), (by decide : 4 + 8 ≤ _)⟩)
    dsimp only [Pt.U, Pt.locs, Pt.cells, Pt.slots] at X142 l142 y142 z142 st142 hQ142
    subst l142 y142 z142
    obtain ⟨b142, kb142, rfl, Nq142, E142, le142_, V142⟩ := hQ142
    have N142 := Fr.app N128 Nq142
    have Ex143 : Ext h0 T142.heap := Ex129.tr E142
    have Ex144 : Ext T128.heap T142.heap := E142
    refine Rch.st st142 ?_
    show Rch p e below T142 (mkF m 26 #[vR ta, vI (0 : Int32), vI (4 : Int32), vR a125, vI (3 : Int32), .unset] [(.ref b142)]) _
    refine Rch.st (fun _ k => XS.astore X142.here hx rfl (hb hby dc3_26) rfl rfl (l' := #[vR ta, vI (0 : Int32), vI (4 : Int32), vR a125, vI (3 : Int32), vR b142]) rfl k) ?_
    refine Rch.st (fun _ k => XS.aload X142.here hx rfl (hb hby dc3_28) rfl rfl k) ?_
    show Rch p e below T142 (mkF m 30 #[vR ta, vI (0 : Int32), vI (4 : Int32), vR a125, vI (3 : Int32), vR b142] [(.ref b142)]) _
    refine Rch.st (fun _ k => XS.iload X142.here hx rfl (hb hby dc3_30) rfl k) ?_
    show Rch p e below T142 (mkF m 32 #[vR ta, vI (0 : Int32), vI (4 : Int32), vR a125, vI (3 : Int32), vR b142] [(.int (3 : Int32)), (.ref b142)]) _
    obtain ⟨_, _, ⟨T145, L145, k145, n145⟩, -, X145, ⟨Lc145, hQ145, l145, y145, z145⟩, st145⟩ := Jvm.LawKit.callS X142 hx (y := (⟨"java/lang/StringUTF16", "getChar", "([BI)C"⟩ : MethodName)) hown (mvT hZ (wq hw 122 rfl)) (mvT hZ (wq hw 123 rfl)) (mvT hZ (wq hw 38 rfl)) (mvT hZ (wq hw 124 rfl)) (by decide) (backOf (W := 0) (rm_getc l Z a0 hw [] b142 kb142 [c0, c1, c2, c3] 3 fm T142.heap n0 (Nat.le_trans Z0 Ex143.1) (B.ext Ex143) hbd V142 (Nat.le_of_ble_eq_true rfl) (Nat.le_of_ble_eq_true rfl)) hZ (wq hw 124 rfl) (wq hw 38 rfl) (by decide) (by decide)) (g := (mkF m 32 #[vR ta, vI (0 : Int32), vI (4 : Int32), vR a125, vI (3 : Int32), vR b142] [(.int (3 : Int32)), (.ref b142)])) rfl (by rw [hml]; rfl) (argsL := [(.ref b142), (.int (3 : Int32))]) (rest := []) (lenOf pd_4 rfl) rfl (by show 2 * 0 + _ ≤ _; exact Nat.le_of_eq rfl) (hb hby dc3_32) (fun _ _ => ⟨rfl, rfl, (by decide : 2 + 0 ≤ _), (by decide : 12 + 0 ≤ _)⟩)
    dsimp only [Pt.U, Pt.locs, Pt.cells, Pt.slots] at X145 l145 y145 z145 st145 hQ145
    subst l145 y145 z145
    obtain ⟨rfl, Nq145, e145⟩ := hQ145
    have N145 := Fr.app N142 Nq145
    refine Rch.st st145 ?_
    show Rch p e below T145 (mkF m 35 #[vR ta, vI (0 : Int32), vI (4 : Int32), vR a125, vI (3 : Int32), vR b142] [(.int c3)]) _
    refine Rch.st (fun _ k => XS.sipush X145.here hx rfl (hb hby dc3_35)  k) ?_
    refine Rch.st (fun _ k => XS.icmpYes X145.here hx rfl (pc0 := 38) (pc' := 54) rfl (hb hby dc3_38) rfl (tlt hc).2.2.1 (by decide) (by decide) k) ?_
    show Rch p e below T145 (mkF m 54 #[vR ta, vI (0 : Int32), vI (4 : Int32), vR a125, vI (3 : Int32), vR b142] []) _
    refine Rch.st (fun _ k => XS.aload X145.here hx rfl (hb hby dc3_54) rfl rfl k) ?_
    show Rch p e below T145 (mkF m 56 #[vR ta, vI (0 : Int32), vI (4 : Int32), vR a125, vI (3 : Int32), vR b142] [(.ref b142)]) _
    exact Rch.fin (Q := Q_cthr4 Z ta ka c0 c1 c2 c3 fm h0 n0) X145 (v := some (.ref b142)) (fun h => by rw [Bd.returns] at h; cases h) (BodyLoose.notSynchronized Bd) (fun fs hr => retR X145 hx Bd.returns rfl rfl (hb hby dc3_56) hr) (by rw [e145]; exact ⟨b142, kb142, rfl, N145, Ex143, Nat.le_trans Ex129.1 le142_, V142⟩) (by decide) (by decide)
def Q_cthr (Z : State) (cs : List Int32) (h0 : Heap) (n0 : Nat) (v : Option Value) (h : Heap) (L : List Loc) : Prop := ∃ b k, v = some (.ref b) ∧ Fr n0 L ∧ Ext h0 h ∧ h0.size ≤ b ∧ Arv Z h b k .byte (Int32.ofNat (2 * cs.length)) (StrChars.Road.wideBytes cs) (.int 0)
theorem rm_cthr (l : Launch) (Z : State) (a0 : Array Value) (hw : ∀ d ∈ tables_1, d.before a0 Z = true) (ws : List Jvm.Cond) (ta : Addr) (ka : ClassId) (cs : List Int32) (fm : Value) (h0 : Heap) (n0 : Nat) (Z0 : n0 ≤ h0.size) (B : Bg Z h0 fm) (M : Arv Z h0 ta ka .char (Int32.ofNat cs.length) (cs.map Value.int) (.int 0)) (hbd : ∀ c ∈ cs, ¬ c < 0 ∧ ¬ (65535 : Int32) < c) (hbig : ∃ c ∈ cs, (255 : Int32) < c) (hn : cs.length ≤ 4) :
    MetFree l (⟨"java/lang/StringUTF16", "compress", "([CII)[B"⟩ : MethodName) (head1 (Jvm.Cond.code (⟨"java/lang/StringUTF16", "compress", "([CII)[B"⟩ : MethodName) jdk_52_method_16_code 6 (some (.array .byte)) :: ws) ({ frames := 3, cells := 2, slots := 12, locals := 40 } : Room)) (fun a U => a = #[(.ref ta), (.int (0 : Int32)), (.int (Int32.ofNat cs.length))] ∧ Z.Warmed39 U.vm ∧ U.heap = h0) (fun _ _ _ _ _ => True) (fun _ U o U' => ∃ v L, o = .returned v ∧ Q_cthr Z cs h0 n0 v U'.heap L ∧ FrameEnd U o U' L ({ frames := 3, cells := 2, slots := 12, locals := 40 } : Room).cells ({ frames := 3, cells := 2, slots := 12, locals := 40 } : Room).slots) := by
  match cs, M, hbd, hbig, hn with
  | [], _, _, hbig, _ => obtain ⟨c, hc, -⟩ := hbig; cases hc
  | [c0], M, hbd, hbig, _ =>
    exact rm_cthr1 l Z a0 hw ws ta ka c0 fm h0 n0 Z0 B M hbd (by simpa using hbig)
  | [c0, c1], M, hbd, hbig, _ =>
    exact rm_cthr2 l Z a0 hw ws ta ka c0 c1 fm h0 n0 Z0 B M hbd (by simpa using hbig)
  | [c0, c1, c2], M, hbd, hbig, _ =>
    exact rm_cthr3 l Z a0 hw ws ta ka c0 c1 c2 fm h0 n0 Z0 B M hbd (by simpa using hbig)
  | [c0, c1, c2, c3], M, hbd, hbig, _ =>
    exact rm_cthr4 l Z a0 hw ws ta ka c0 c1 c2 c3 fm h0 n0 Z0 B M hbd (by simpa using hbig)
  | _ :: _ :: _ :: _ :: _ :: _, _, _, _, hn => exact absurd hn (by simp)
theorem dcl_0 : decode jdk_52_method_15_code 0 = .ok (.iload_n 1, 1) := by decide +kernel
theorem dcl_1 : decode jdk_52_method_15_code 1 = .ok (.aload_n 0, 1) := by decide +kernel
theorem dcl_2 : decode jdk_52_method_15_code 2 = .ok (.arraylength, 1) := by decide +kernel
theorem dcl_3 : decode jdk_52_method_15_code 3 = .ok (.isub, 1) := by decide +kernel
theorem dcl_4 : decode jdk_52_method_15_code 4 = .ok (.bipush 31, 2) := by decide +kernel
theorem dcl_6 : decode jdk_52_method_15_code 6 = .ok (.iushr, 1) := by decide +kernel
theorem dcl_7 : decode jdk_52_method_15_code 7 = .ok (.i2b, 1) := by decide +kernel
theorem dcl_8 : decode jdk_52_method_15_code 8 = .ok (.ireturn, 1) := by decide +kernel
theorem pn_codl : plainFor (⟨"java/lang/StringUTF16", "coderFromArrayLen", "([BI)B"⟩ : MethodName) = true := by first | exact plainFor_of_name (by first | (simp [plainName, overriddenIn]; done) | decide +kernel) | exact Jvm.Free.JP.mathPlain rfl (by decide +kernel)
theorem ef_codl (m : MethodId) (x0 : Addr) (x1 : Int32) : entryFrame m #[(.ref x0), (.int x1)] 2 = mkF m 0 #[vR x0, vI x1] [] := by first | (simp [entryFrame, mkF, argsToLocals, Value.category]; done) | rfl
def Q_codl (Z : State) (tb : Addr) (kb : ClassId) (vs : List Value) (nn : Nat) (h0 : Heap) (n0 : Nat) (v : Option Value) (h : Heap) (L : List Loc) : Prop := v = some (.int 1) ∧ Fr n0 L ∧ h = h0
set_option maxRecDepth 65536 in
set_option maxHeartbeats 40000000 in
theorem rm_codl (l : Launch) (Z : State) (a0 : Array Value) (hw : ∀ d ∈ tables_1, d.before a0 Z = true) (ws : List Jvm.Cond) (tb : Addr) (kb : ClassId) (vs : List Value) (nn : Nat) (h0 : Heap) (n0 : Nat) (Z0 : n0 ≤ h0.size) (M : Arv Z h0 tb kb .byte (Int32.ofNat (2 * nn)) vs (.int 0)) (h1 : 0 < nn) (h2 : nn ≤ 4) :
    MetFree l (⟨"java/lang/StringUTF16", "coderFromArrayLen", "([BI)B"⟩ : MethodName) (head1 (Jvm.Cond.code (⟨"java/lang/StringUTF16", "coderFromArrayLen", "([BI)B"⟩ : MethodName) jdk_52_method_15_code 2 (some .byte) :: ws) ({ frames := 0, cells := 0, slots := 0, locals := 0 } : Room)) (fun a U => a = #[(.ref tb), (.int (Int32.ofNat nn))] ∧ Z.Warmed39 U.vm ∧ U.heap = h0) (fun _ _ _ _ _ => True) (fun _ U o U' => ∃ v L, o = .returned v ∧ Q_codl Z tb kb vs nn h0 n0 v U'.heap L ∧ FrameEnd U o U' L ({ frames := 0, cells := 0, slots := 0, locals := 0 } : Room).cells ({ frames := 0, cells := 0, slots := 0, locals := 0 } : Room).slots) := by
  refine MetFree.of_bodySF pn_codl hisR ?_
  intro p e s m args below meth c s₁ Bd hml0 hP hK
  obtain ⟨rfl, hZ, hh⟩ := hP
  have hx := Bd.exec
  have hby := Bd.bytes
  have hml : c.maxLocals = 2 := hml0
  have hown : s.vm.findClass "java/lang/StringUTF16" = some m.cls := findClass_of_methodNamed Bd.named
  have hnm := (name_of_methodNamed Bd.named Bd.method).1
  have X0 : Stand p l e ({ frames := 0, cells := 0, slots := 0, locals := 0 } : Room) s m #[(.ref tb), (.int (Int32.ofNat nn))] below meth c s₁ [] 0 0 := Stand.of_body Bd
  have e0 : s₁.heap = h0 := by rw [← hh, Bd.state]; rfl
  have N0 := Fr.nil n0
  show Rch p e below s₁ (entryFrame m #[(.ref tb), (.int (Int32.ofNat nn))] 2) (fun U o => ∃ v L, o = .returned v ∧ Q_codl Z tb kb vs nn h0 n0 v U.heap L ∧ FrameEnd s o U L ({ frames := 0, cells := 0, slots := 0, locals := 0 } : Room).cells ({ frames := 0, cells := 0, slots := 0, locals := 0 } : Room).slots)
  refine Rch.cast (ef_codl m tb (Int32.ofNat nn)) ?_
  show Rch p e below s₁ (mkF m 0 #[vR tb, vI (Int32.ofNat nn)] []) _
  refine Rch.st (fun _ k => XS.iloadN X0.here hx rfl (hb hby dcl_0) rfl k) ?_
  refine Rch.st (fun _ k => XS.aloadN X0.here hx rfl (hb hby dcl_1) rfl rfl k) ?_
  show Rch p e below s₁ (mkF m 2 #[vR tb, vI (Int32.ofNat nn)] [(.ref tb), (.int (Int32.ofNat nn))]) _
  refine Rch.st (alenA X0 hx hZ e0 M.arh (g := (mkF m 2 #[vR tb, vI (Int32.ofNat nn)] [(.ref tb), (.int (Int32.ofNat nn))])) rfl rfl (hb hby dcl_2)) ?_
  show Rch p e below s₁ (mkF m 3 #[vR tb, vI (Int32.ofNat nn)] [(.int (Int32.ofNat (2 * nn))), (.int (Int32.ofNat nn))]) _
  refine Rch.st (fun _ k => XS.isub X0.here hx rfl (hb hby dcl_3) rfl k) ?_
  refine Rch.st (fun _ k => XS.bipush X0.here hx rfl (hb hby dcl_4)  k) ?_
  show Rch p e below s₁ (mkF m 6 #[vR tb, vI (Int32.ofNat nn)] [(.int (31 : Int32)), (.int ((Int32.ofNat nn) - (Int32.ofNat (2 * nn))))]) _
  refine Rch.st (fun _ k => XT.iushr X0.here hx rfl (hb hby dcl_6) rfl k) ?_
  show Rch p e below s₁ (mkF m 7 #[vR tb, vI (Int32.ofNat nn)] [(.int (XT.ushr ((Int32.ofNat nn) - (Int32.ofNat (2 * nn))) (31 : Int32)))]) _
  refine Rch.st (fun _ k => XT.i2b X0.here hx rfl (hb hby dcl_7) rfl k) ?_
  show Rch p e below s₁ (mkF m 8 #[vR tb, vI (Int32.ofNat nn)] [(.int ((XT.ushr ((Int32.ofNat nn) - (Int32.ofNat (2 * nn))) (31 : Int32)).toInt8.toInt32))]) _
  have ev : ((XT.ushr ((Int32.ofNat nn) - (Int32.ofNat (2 * nn))) (31 : Int32)).toInt8.toInt32) = (1 : Int32) := by
    have t : ∀ k : Fin 5, 0 < k.val → ((XT.ushr ((Int32.ofNat k.val) - (Int32.ofNat (2 * k.val))) (31 : Int32)).toInt8.toInt32) = (1 : Int32) := by decide +kernel
    exact t ⟨nn, by omega⟩ h1
  rw [ev]
  show Rch p e below s₁ (mkF m 8 #[vR tb, vI (Int32.ofNat nn)] [(.int (1 : Int32))]) _
  exact Rch.fin (Q := Q_codl Z tb kb vs nn h0 n0) X0 (v := some (.int (1 : Int32))) (fun h => by rw [Bd.returns] at h; cases h) (BodyLoose.notSynchronized Bd) (fun fs hr => retN X0 hx (t := .byte) Bd.returns (by simp) (hb hby dcl_8) hr) (by rw [e0]; exact ⟨rfl, N0, rfl⟩) (by decide) (by decide)
theorem pn_new4u : plainFor (⟨"java/lang/String", "<init>", "([CIILjava/lang/Void;)V"⟩ : MethodName) = true := by first | exact plainFor_of_name (by first | (simp [plainName, overriddenIn]; done) | decide +kernel) | exact Jvm.Free.JP.mathPlain rfl (by decide +kernel)
theorem ef_new4u (m : MethodId) (x0 : Addr) (x1 : Addr) (x2 : Int32) (x3 : Int32) : entryFrame m #[(.ref x0), (.ref x1), (.int x2), (.int x3), .null] 6 = mkF m 0 #[vR x0, vR x1, vI x2, vI x3, .val .null, .unset] [] := by first | (simp [entryFrame, mkF, argsToLocals, Value.category]; done) | rfl
def Q_new4u (Z : State) (ta tc : Addr) (kc : ClassId) (cs : List Int32) (fm : Value) (h0 : Heap) (n0 : Nat) (v : Option Value) (h : Heap) (L : List Loc) : Prop := v = none ∧ Fr n0 L ∧ Keep h0 h [ta] ∧ StrA Z h ta cs
set_option maxRecDepth 65536 in
set_option maxHeartbeats 40000000 in
theorem rm_new4u (l : Launch) (Z : State) (a0 : Array Value) (hw : ∀ d ∈ tables_1, d.before a0 Z = true) (ws : List Jvm.Cond) (ta tc : Addr) (kc : ClassId) (cs : List Int32) (fm : Value) (h0 : Heap) (n0 : Nat) (Z0 : n0 ≤ h0.size) (B : Bg Z h0 fm) (hthis : n0 ≤ ta) (E1 : Exa Z h0 ta "java/lang/String") (F1 : Fld Z h0 ta "java/lang/String" "value" "[B" .null) (F2 : Fld Z h0 ta "java/lang/String" "coder" "B" (.int (0 : Int32))) (M : Arv Z h0 tc kc .char (Int32.ofNat cs.length) (cs.map Value.int) (.int 0)) (hbd : ∀ c ∈ cs, ¬ c < 0 ∧ ¬ (65535 : Int32) < c) (hbig : ∃ c ∈ cs, (255 : Int32) < c) (hn : cs.length ≤ 4) :
    MetFree l (⟨"java/lang/String", "<init>", "([CIILjava/lang/Void;)V"⟩ : MethodName) (head1 (Jvm.Cond.code (⟨"java/lang/String", "<init>", "([CIILjava/lang/Void;)V"⟩ : MethodName) jdk_42_method_149_code 6 none :: ws) ({ frames := 4, cells := 2, slots := 12, locals := 57 } : Room)) (fun a U => a = #[(.ref ta), (.ref tc), (.int (0 : Int32)), (.int (Int32.ofNat cs.length)), .null] ∧ Z.Warmed39 U.vm ∧ U.heap = h0) (fun _ _ _ _ _ => True) (fun _ U o U' => ∃ v L, o = .returned v ∧ Q_new4u Z ta tc kc cs fm h0 n0 v U'.heap L ∧ FrameEnd U o U' L ({ frames := 4, cells := 2, slots := 12, locals := 57 } : Room).cells ({ frames := 4, cells := 2, slots := 12, locals := 57 } : Room).slots) := by
  refine MetFree.of_bodySF pn_new4u hisR ?_
  intro p e s m args below meth c s₁ Bd hml0 hP hK
  obtain ⟨rfl, hZ, hh⟩ := hP
  have hx := Bd.exec
  have hby := Bd.bytes
  have hml : c.maxLocals = 6 := hml0
  have hown : s.vm.findClass "java/lang/String" = some m.cls := findClass_of_methodNamed Bd.named
  have hnm := (name_of_methodNamed Bd.named Bd.method).1
  have X0 : Stand p l e ({ frames := 4, cells := 2, slots := 12, locals := 57 } : Room) s m #[(.ref ta), (.ref tc), (.int (0 : Int32)), (.int (Int32.ofNat cs.length)), .null] below meth c s₁ [] 0 0 := Stand.of_body Bd
  have e0 : s₁.heap = h0 := by rw [← hh, Bd.state]; rfl
  have N0 := Fr.nil n0
  show Rch p e below s₁ (entryFrame m #[(.ref ta), (.ref tc), (.int (0 : Int32)), (.int (Int32.ofNat cs.length)), .null] 6) (fun U o => ∃ v L, o = .returned v ∧ Q_new4u Z ta tc kc cs fm h0 n0 v U.heap L ∧ FrameEnd s o U L ({ frames := 4, cells := 2, slots := 12, locals := 57 } : Room).cells ({ frames := 4, cells := 2, slots := 12, locals := 57 } : Room).slots)
  refine Rch.cast (ef_new4u m ta tc (0 : Int32) (Int32.ofNat cs.length)) ?_
  show Rch p e below s₁ (mkF m 0 #[vR ta, vR tc, vI (0 : Int32), vI (Int32.ofNat cs.length), .val .null, .unset] []) _
  have hsl : Jvm.RoadKit.slotOf Z "java/lang/String" "value" "[B" ≠ Jvm.RoadKit.slotOf Z "java/lang/String" "coder" "B" := slot_ne (C := "java/lang/String") (Or.inr (wq hw 16 rfl)) (Or.inr (wq hw 17 rfl)) (by decide) (t := .array .byte) (t' := .byte) (by decide) (by decide)
  have hpos : 0 < cs.length := by obtain ⟨c, hc, -⟩ := hbig; exact List.length_pos_of_mem hc
  have hne : ¬ (Int32.ofNat cs.length) = (0 : Int32) := fun q => by have := congrArg Int32.toInt q; rw [Int32.toInt_ofNat_small (show cs.length < 2 ^ 31 by omega)] at this; have e0 : (0 : Int32).toInt = 0 := rfl; omega
  obtain ⟨zc, Sz, hzc⟩ := id B.1
  refine Rch.st (fun _ k => XS.aloadN X0.here hx rfl (hb hby dn4_0) rfl rfl k) ?_
  show Rch p e below s₁ (mkF m 1 #[vR ta, vR tc, vI (0 : Int32), vI (Int32.ofNat cs.length), .val .null, .unset] [(.ref ta)]) _
  obtain ⟨T146, X146, e146, st146⟩ := initO X0 hx hZ hown (wq hw 11 rfl) (wq hw 12 rfl) (wq hw 13 rfl) e0 (g := (mkF m 1 #[vR ta, vR tc, vI (0 : Int32), vI (Int32.ofNat cs.length), .val .null, .unset] [(.ref ta)])) rfl (by rw [hml]; rfl) rfl (hb hby dn4_1) (by decide) (W := 0) (by show 2 * 0 + _ ≤ _; exact Nat.le_of_eq rfl) (by decide)
  refine Rch.st st146 ?_
  show Rch p e below T146 (mkF m 4 #[vR ta, vR tc, vI (0 : Int32), vI (Int32.ofNat cs.length), .val .null, .unset] []) _
  refine Rch.st (fun _ k => XS.iloadN X146.here hx rfl (hb hby dn4_4) rfl k) ?_
  refine Rch.st (fun _ k => XS.ifYes X146.here hx rfl (pc0 := 5) (pc' := 27) rfl (hb hby dn4_5) rfl ((if0 _ _).trans (feq hne).2) (by decide) (by decide) k) ?_
  show Rch p e below T146 (mkF m 27 #[vR ta, vR tc, vI (0 : Int32), vI (Int32.ofNat cs.length), .val .null, .unset] []) _
  obtain ⟨T147, X147, e147, st147⟩ := getS2 X146 hx hZ hown (host := "") (Or.inl (wq hw 35 rfl)) Via.refl e146 Sz (g := (mkF m 27 #[vR ta, vR tc, vI (0 : Int32), vI (Int32.ofNat cs.length), .val .null, .unset] [])) rfl (hb hby dn4_27)
  refine Rch.st st147 ?_
  show Rch p e below T147 (mkF m 30 #[vR ta, vR tc, vI (0 : Int32), vI (Int32.ofNat cs.length), .val .null, .unset] [(.int zc)]) _
  refine Rch.st (fun _ k => XS.ifNo X147.here hx rfl (hb hby dn4_30) rfl ((if0 _ _).trans (feq hzc).1) k) ?_
  refine Rch.st (fun _ k => XS.aloadN X147.here hx rfl (hb hby dn4_33) rfl rfl k) ?_
  show Rch p e below T147 (mkF m 34 #[vR ta, vR tc, vI (0 : Int32), vI (Int32.ofNat cs.length), .val .null, .unset] [(.ref tc)]) _
  refine Rch.st (fun _ k => XS.iloadN X147.here hx rfl (hb hby dn4_34) rfl k) ?_
  refine Rch.st (fun _ k => XS.iloadN X147.here hx rfl (hb hby dn4_35) rfl k) ?_
  show Rch p e below T147 (mkF m 36 #[vR ta, vR tc, vI (0 : Int32), vI (Int32.ofNat cs.length), .val .null, .unset] [(.int (Int32.ofNat cs.length)), (.int (0 : Int32)), (.ref tc)]) _
  obtain ⟨_, _, ⟨T148, L148, k148, n148⟩, -, X148, ⟨Lc148, hQ148, l148, y148, z148⟩, st148⟩ := Jvm.LawKit.callS X147 hx (y := (⟨"java/lang/StringUTF16", "compress", "([CII)[B"⟩ : MethodName)) hown (mvT hZ (wq hw 36 rfl)) (mvT hZ (wq hw 37 rfl)) (mvT hZ (wq hw 38 rfl)) (mvT hZ (wq hw 39 rfl)) (by decide) (backOf (W := 0) (rm_cthr l Z a0 hw [] tc kc cs fm h0 n0 Z0 B M hbd hbig hn) hZ (wq hw 39 rfl) (wq hw 38 rfl) (by decide) (by decide)) (g := (mkF m 36 #[vR ta, vR tc, vI (0 : Int32), vI (Int32.ofNat cs.length), .val .null, .unset] [(.int (Int32.ofNat cs.length)), (.int (0 : Int32)), (.ref tc)])) rfl (by rw [hml]; rfl) (argsL := [(.ref tc), (.int (0 : Int32)), (.int (Int32.ofNat cs.length))]) (rest := []) (lenOf pd_11 rfl) rfl (by show 2 * 0 + _ ≤ _; exact Nat.le_of_eq rfl) (hb hby dn4_36) (fun _ _ => ⟨rfl, e147, (by decide : 0 + 2 ≤ _), (by decide : 0 + 12 ≤ _)⟩)
  dsimp only [Pt.U, Pt.locs, Pt.cells, Pt.slots] at X148 l148 y148 z148 st148 hQ148
  subst l148 y148 z148
  obtain ⟨b148, kb148, rfl, Nq148, E148, le148_, V148⟩ := hQ148
  have N148 := Fr.app N0 Nq148
  have Ex149 : Ext h0 T148.heap := E148
  refine Rch.st st148 ?_
  show Rch p e below T148 (mkF m 39 #[vR ta, vR tc, vI (0 : Int32), vI (Int32.ofNat cs.length), .val .null, .unset] [(.ref b148)]) _
  refine Rch.st (fun _ k => XS.astore X148.here hx rfl (hb hby dn4_39) rfl rfl (l' := #[vR ta, vR tc, vI (0 : Int32), vI (Int32.ofNat cs.length), .val .null, vR b148]) rfl k) ?_
  refine Rch.st (fun _ k => XS.aloadN X148.here hx rfl (hb hby dn4_41) rfl rfl k) ?_
  show Rch p e below T148 (mkF m 42 #[vR ta, vR tc, vI (0 : Int32), vI (Int32.ofNat cs.length), .val .null, vR b148] [(.ref ta)]) _
  refine Rch.st (fun _ k => XS.aload X148.here hx rfl (hb hby dn4_42) rfl rfl k) ?_
  refine Rch.st (fun _ k => XS.iloadN X148.here hx rfl (hb hby dn4_44) rfl k) ?_
  show Rch p e below T148 (mkF m 45 #[vR ta, vR tc, vI (0 : Int32), vI (Int32.ofNat cs.length), .val .null, vR b148] [(.int (Int32.ofNat cs.length)), (.ref b148), (.ref ta)]) _
  obtain ⟨_, _, ⟨T150, L150, k150, n150⟩, -, X150, ⟨Lc150, hQ150, l150, y150, z150⟩, st150⟩ := Jvm.LawKit.callS X148 hx (y := (⟨"java/lang/StringUTF16", "coderFromArrayLen", "([BI)B"⟩ : MethodName)) hown (mvT hZ (wq hw 43 rfl)) (mvT hZ (wq hw 44 rfl)) (mvT hZ (wq hw 38 rfl)) (mvT hZ (wq hw 45 rfl)) (by decide) (backOf (W := 1) (rm_codl l Z a0 hw [] b148 kb148 _ cs.length T148.heap n0 (Nat.le_trans Z0 Ex149.1) V148 hpos hn) hZ (wq hw 45 rfl) (wq hw 38 rfl) (by decide) (by decide)) (g := (mkF m 45 #[vR ta, vR tc, vI (0 : Int32), vI (Int32.ofNat cs.length), .val .null, vR b148] [(.int (Int32.ofNat cs.length)), (.ref b148), (.ref ta)])) rfl (by rw [hml]; rfl) (argsL := [(.ref b148), (.int (Int32.ofNat cs.length))]) (rest := [(.ref ta)]) (lenOf pd_12 rfl) rfl (by show 2 * 0 + _ ≤ _; exact Nat.le_of_eq rfl) (hb hby dn4_45) (fun _ _ => ⟨rfl, rfl, (by decide : 2 + 0 ≤ _), (by decide : 12 + 0 ≤ _)⟩)
  dsimp only [Pt.U, Pt.locs, Pt.cells, Pt.slots] at X150 l150 y150 z150 st150 hQ150
  subst l150 y150 z150
  obtain ⟨rfl, Nq150, e150⟩ := hQ150
  have N150 := Fr.app N148 Nq150
  refine Rch.st st150 ?_
  show Rch p e below T150 (mkF m 48 #[vR ta, vR tc, vI (0 : Int32), vI (Int32.ofNat cs.length), .val .null, vR b148] [(.int (1 : Int32)), (.ref ta)]) _
  have F3 := F1.ext Ex149
  have F4 := F2.ext Ex149
  have E3 := E1.ext Ex149
  have ne : ta ≠ b148 := E3.neArv V148 (wq hw 2 rfl)
  obtain ⟨T151, h151, X151, e151, W151, st151⟩ := putF X150 hx hZ hown (host := "") (Or.inl (wq hw 21 rfl)) Via.refl e150 F4 E3 (Or.inr ⟨(wq hw 17 rfl), rfl, hnm⟩) (wq hw 2 rfl) (ty := .byte) (by decide) rfl rfl (g := (mkF m 48 #[vR ta, vR tc, vI (0 : Int32), vI (Int32.ofNat cs.length), .val .null, vR b148] [(.int (1 : Int32)), (.ref ta)])) rfl rfl (hb hby dn4_48)
  have N151 := Fr.snoc X151 N150 hthis
  refine Rch.st st151 ?_
  show Rch p e below T151 (mkF m 51 #[vR ta, vR tc, vI (0 : Int32), vI (Int32.ofNat cs.length), .val .null, vR b148] []) _
  have F5 := F3.other W151 (Or.inr hsl)
  have F6 := F4.same W151
  have E5 := E3.wr W151
  have A5 := V148.other W151 (Ne.symm ne)
  refine Rch.st (fun _ k => XS.aloadN X151.here hx rfl (hb hby dn4_51) rfl rfl k) ?_
  refine Rch.st (fun _ k => XS.aload X151.here hx rfl (hb hby dn4_52) rfl rfl k) ?_
  show Rch p e below T151 (mkF m 54 #[vR ta, vR tc, vI (0 : Int32), vI (Int32.ofNat cs.length), .val .null, vR b148] [(.ref b148), (.ref ta)]) _
  obtain ⟨T152, h152, X152, e152, W152, st152⟩ := putF X151 hx hZ hown (host := "") (Or.inl (wq hw 20 rfl)) Via.refl e151 F5 E5 (Or.inr ⟨(wq hw 16 rfl), rfl, hnm⟩) (wq hw 2 rfl) (ty := (.array .byte)) (by decide) rfl rfl (g := (mkF m 54 #[vR ta, vR tc, vI (0 : Int32), vI (Int32.ofNat cs.length), .val .null, vR b148] [(.ref b148), (.ref ta)])) rfl rfl (hb hby dn4_54)
  have N152 := Fr.snoc X152 N151 hthis
  refine Rch.st st152 ?_
  show Rch p e below T152 (mkF m 57 #[vR ta, vR tc, vI (0 : Int32), vI (Int32.ofNat cs.length), .val .null, vR b148] []) _
  have K9 : Keep h0 h152 [ta] := (((Keep.refl h0 [ta]).ext Ex149).wr W151 (Or.inl (List.mem_singleton.mpr rfl))).wr W152 (Or.inl (List.mem_singleton.mpr rfl))
  have S9 : StrA Z h152 ta cs := ⟨_, _, 1, _, _, E5.wr W152, F5.same W152, F6.other W152 (Or.inr (Ne.symm hsl)), A5.other W152 (Ne.symm ne), Or.inr ⟨rfl, rfl, rfl, hbig⟩, hbd⟩
  exact Rch.fin (Q := Q_new4u Z ta tc kc cs fm h0 n0) X152 (v := none) (fun _ => rfl) (BodyLoose.notSynchronized Bd) (fun fs hr => X152.returnOut hx Bd.returns (hb hby dn4_57) hr) (by rw [e152]; exact ⟨rfl, N152, K9, S9⟩) (by decide) (by decide)
theorem pn_new1u : plainFor (⟨"java/lang/String", "<init>", "([C)V"⟩ : MethodName) = true := by first | exact plainFor_of_name (by first | (simp [plainName, overriddenIn]; done) | decide +kernel) | exact Jvm.Free.JP.mathPlain rfl (by decide +kernel)
theorem ef_new1u (m : MethodId) (x0 : Addr) (x1 : Addr) : entryFrame m #[(.ref x0), (.ref x1)] 2 = mkF m 0 #[vR x0, vR x1] [] := by first | (simp [entryFrame, mkF, argsToLocals, Value.category]; done) | rfl
def Q_new1u (Z : State) (ta tc : Addr) (kc : ClassId) (cs : List Int32) (fm : Value) (h0 : Heap) (n0 : Nat) (v : Option Value) (h : Heap) (L : List Loc) : Prop := v = none ∧ Fr n0 L ∧ Keep h0 h [ta] ∧ StrA Z h ta cs
set_option maxRecDepth 65536 in
set_option maxHeartbeats 40000000 in
theorem rm_new1u (l : Launch) (Z : State) (a0 : Array Value) (hw : ∀ d ∈ tables_1, d.before a0 Z = true) (ws : List Jvm.Cond) (ta tc : Addr) (kc : ClassId) (cs : List Int32) (fm : Value) (h0 : Heap) (n0 : Nat) (Z0 : n0 ≤ h0.size) (B : Bg Z h0 fm) (hthis : n0 ≤ ta) (E1 : Exa Z h0 ta "java/lang/String") (F1 : Fld Z h0 ta "java/lang/String" "value" "[B" .null) (F2 : Fld Z h0 ta "java/lang/String" "coder" "B" (.int (0 : Int32))) (M : Arv Z h0 tc kc .char (Int32.ofNat cs.length) (cs.map Value.int) (.int 0)) (hbd : ∀ c ∈ cs, ¬ c < 0 ∧ ¬ (65535 : Int32) < c) (hbig : ∃ c ∈ cs, (255 : Int32) < c) (hn : cs.length ≤ 4) :
    MetFree l (⟨"java/lang/String", "<init>", "([C)V"⟩ : MethodName) (head1 (Jvm.Cond.code (⟨"java/lang/String", "<init>", "([C)V"⟩ : MethodName) jdk_42_method_3_code 2 none :: ws) ({ frames := 5, cells := 2, slots := 12, locals := 74 } : Room)) (fun a U => a = #[(.ref ta), (.ref tc)] ∧ Z.Warmed39 U.vm ∧ U.heap = h0) (fun _ _ _ _ _ => True) (fun _ U o U' => ∃ v L, o = .returned v ∧ Q_new1u Z ta tc kc cs fm h0 n0 v U'.heap L ∧ FrameEnd U o U' L ({ frames := 5, cells := 2, slots := 12, locals := 74 } : Room).cells ({ frames := 5, cells := 2, slots := 12, locals := 74 } : Room).slots) := by
  refine MetFree.of_bodySF pn_new1u hisR ?_
  intro p e s m args below meth c s₁ Bd hml0 hP hK
  obtain ⟨rfl, hZ, hh⟩ := hP
  have hx := Bd.exec
  have hby := Bd.bytes
  have hml : c.maxLocals = 2 := hml0
  have hown : s.vm.findClass "java/lang/String" = some m.cls := findClass_of_methodNamed Bd.named
  have hnm := (name_of_methodNamed Bd.named Bd.method).1
  have X0 : Stand p l e ({ frames := 5, cells := 2, slots := 12, locals := 74 } : Room) s m #[(.ref ta), (.ref tc)] below meth c s₁ [] 0 0 := Stand.of_body Bd
  have e0 : s₁.heap = h0 := by rw [← hh, Bd.state]; rfl
  have N0 := Fr.nil n0
  show Rch p e below s₁ (entryFrame m #[(.ref ta), (.ref tc)] 2) (fun U o => ∃ v L, o = .returned v ∧ Q_new1u Z ta tc kc cs fm h0 n0 v U.heap L ∧ FrameEnd s o U L ({ frames := 5, cells := 2, slots := 12, locals := 74 } : Room).cells ({ frames := 5, cells := 2, slots := 12, locals := 74 } : Room).slots)
  refine Rch.cast (ef_new1u m ta tc) ?_
  show Rch p e below s₁ (mkF m 0 #[vR ta, vR tc] []) _
  refine Rch.st (fun _ k => XS.aloadN X0.here hx rfl (hb hby dn1_0) rfl rfl k) ?_
  refine Rch.st (fun _ k => XS.aloadN X0.here hx rfl (hb hby dn1_1) rfl rfl k) ?_
  show Rch p e below s₁ (mkF m 2 #[vR ta, vR tc] [(.ref tc), (.ref ta)]) _
  refine Rch.st (fun _ k => XS.iconst X0.here hx rfl (hb hby dn1_2)  k) ?_
  refine Rch.st (fun _ k => XS.aloadN X0.here hx rfl (hb hby dn1_3) rfl rfl k) ?_
  show Rch p e below s₁ (mkF m 4 #[vR ta, vR tc] [(.ref tc), (.int (0 : Int32)), (.ref tc), (.ref ta)]) _
  refine Rch.st (alenA X0 hx hZ e0 M.arh (g := (mkF m 4 #[vR ta, vR tc] [(.ref tc), (.int (0 : Int32)), (.ref tc), (.ref ta)])) rfl rfl (hb hby dn1_4)) ?_
  show Rch p e below s₁ (mkF m 5 #[vR ta, vR tc] [(.int (Int32.ofNat cs.length)), (.int (0 : Int32)), (.ref tc), (.ref ta)]) _
  refine Rch.st (fun _ k => XS.aconstNull X0.here hx rfl (hb hby dn1_5)  k) ?_
  show Rch p e below s₁ (mkF m 6 #[vR ta, vR tc] [.null, (.int (Int32.ofNat cs.length)), (.int (0 : Int32)), (.ref tc), (.ref ta)]) _
  obtain ⟨_, _, ⟨T153, L153, k153, n153⟩, -, X153, ⟨Lc153, hQ153, l153, y153, z153⟩, st153⟩ := X0.specialBack hx (y := (⟨"java/lang/String", "<init>", "([CIILjava/lang/Void;)V"⟩ : MethodName)) rfl hown (mvT hZ (wq hw 7 rfl)) (mvT hZ (wq hw 8 rfl)) (mvT hZ (wq hw 10 rfl)) (by decide) (backOf (W := 0) (rm_new4u l Z a0 hw [] ta tc kc cs fm h0 n0 Z0 B hthis E1 F1 F2 M hbd hbig hn) hZ (wq hw 10 rfl) (wq hw 3 rfl) (by decide) (by decide)) (g := (mkF m 6 #[vR ta, vR tc] [.null, (.int (Int32.ofNat cs.length)), (.int (0 : Int32)), (.ref tc), (.ref ta)])) rfl (by rw [hml]; rfl) (Steps.refl _) (a := ta) (argsL := [(.ref tc), (.int (0 : Int32)), (.int (Int32.ofNat cs.length)), .null]) (rest := []) (lenOf pd_6 rfl) rfl (by show 2 * 0 + _ ≤ _; exact Nat.le_of_eq rfl) (hb hby dn1_6) (fun _ _ => ⟨rfl, e0, (by decide : 0 + 2 ≤ _), (by decide : 0 + 12 ≤ _)⟩)
  dsimp only [Pt.U, Pt.locs, Pt.cells, Pt.slots] at X153 l153 y153 z153 st153 hQ153
  subst l153 y153 z153
  obtain ⟨rfl, Nq153, K153, Q153⟩ := hQ153
  have N153 := Fr.app N0 Nq153
  refine Rch.go st153 ?_
  show Rch p e below T153 (mkF m 9 #[vR ta, vR tc] []) _
  exact Rch.fin (Q := Q_new1u Z ta tc kc cs fm h0 n0) X153 (v := none) (fun _ => rfl) (BodyLoose.notSynchronized Bd) (fun fs hr => X153.returnOut hx Bd.returns (hb hby dn1_9) hr) ⟨rfl, N153, K153, Q153⟩ (by decide) (by decide)
theorem newS {p : Program} {l : Launch} {e : Env} {R : Room} {s : State} {args : Array Value} {below : List Frame} {len W : Nat} {Z : State} {a0 : Array Value} {h : Heap} (hZ : Z.Warmed39 s.vm) (hw : ∀ d ∈ tables_1, d.before a0 Z = true) {x b : Addr} {kC : ClassId} {cs : List Int32} {fm : Value} {n0 : Nat} (hx0 : n0 ≤ x) (hh0 : n0 ≤ h.size) (E : Exa Z h x "java/lang/String") (V : Fld Z h x "java/lang/String" "value" "[B" .null) (C : Fld Z h x "java/lang/String" "coder" "B" (.int 0)) (K : Arv Z h b kC .char (Int32.ofNat cs.length) (cs.map Value.int) (.int 0)) (B : Bg Z h fm) (hbd : ∀ c ∈ cs, ¬ c < 0 ∧ ¬ (65535 : Int32) < c) (l0 : 0 < cs.length) (l2 : cs.length ≤ 4) (hfr : 6 ≤ R.frames) (hlo : W + 87 ≤ R.locals) :
    Back l R p e below s args (⟨"java/lang/String", "<init>", "([C)V"⟩ : MethodName) len W (fun P a => a = #[.ref x, .ref b] ∧ P.U.heap = h ∧ P.cells + 2 ≤ R.cells ∧ P.slots + 12 ≤ R.slots)
      (fun P _ v B => ∃ L, (v = none ∧ Fr n0 L ∧ Keep h B.U.heap [x] ∧ StrA Z B.U.heap x cs) ∧ B.locs = P.locs ++ L ∧ B.cells = P.cells + 2 ∧ B.slots = P.slots + 12) := by
  have pad : ∀ {k n : Nat}, k ≤ 2 → n ≤ 12 → Back l R p e below s args (⟨"java/lang/String", "<init>", "([C)V"⟩ : MethodName) len W (fun P a => a = #[.ref x, .ref b] ∧ P.U.heap = h ∧ P.cells + k ≤ R.cells ∧ P.slots + n ≤ R.slots) (fun P _ v B => ∃ L, (v = none ∧ Fr n0 L ∧ Keep h B.U.heap [x] ∧ StrA Z B.U.heap x cs) ∧ B.locs = P.locs ++ L ∧ B.cells = P.cells + k ∧ B.slots = P.slots + n) → Back l R p e below s args (⟨"java/lang/String", "<init>", "([C)V"⟩ : MethodName) len W (fun P a => a = #[.ref x, .ref b] ∧ P.U.heap = h ∧ P.cells + 2 ≤ R.cells ∧ P.slots + 12 ≤ R.slots) (fun P _ v B => ∃ L, (v = none ∧ Fr n0 L ∧ Keep h B.U.heap [x] ∧ StrA Z B.U.heap x cs) ∧ B.locs = P.locs ++ L ∧ B.cells = P.cells + 2 ∧ B.slots = P.slots + 12) := by
    intro k n hk hn H m meth c A g ig mk a X hg hs hd hW hm hp
    obtain ⟨v, ⟨U, Lx, kx, nx⟩, X', ⟨L, q, q1, q2, q3⟩, st⟩ := H m meth c A g ig mk a X hg hs hd hW hm ⟨hp.1, hp.2.1, by omega, by omega⟩
    dsimp only [Pt.U, Pt.locs, Pt.cells, Pt.slots] at X' q q1 q2 q3 st
    subst q1 q2 q3
    exact ⟨v, ⟨U, _, _, _⟩, X'.mono (Nat.add_le_add_left hk _) (Nat.add_le_add_left hn _), ⟨L, q, rfl, rfl, rfl⟩, st⟩
  by_cases hL : ∃ c ∈ cs, (255 : Int32) < c
  · exact pad (k := 2) (n := 12) (by decide) (by decide) (backOf (W := W) (rm_new1u l Z a0 hw [] x b kC cs fm h n0 hh0 B hx0 E V C K hbd hL l2) hZ (wq hw 6 rfl) (wq hw 3 rfl) (by show 5 + 1 ≤ _; omega) (by show W + (2 + 11) + 74 ≤ _; omega))
  · exact pad (k := 1) (n := cs.length) (by decide) (Nat.le_trans l2 (by decide)) (backS hZ hw hx0 hh0 E V C K B.1 rfl rfl l0 (by omega) (fun c hc => ⟨(hbd c hc).1, fun q => hL ⟨c, hc, q⟩⟩) (by omega) (by omega))

def symB (c : Int32) : Bool := ([33, 35, 36, 37, 38, 39, 42, 43, 45, 46, 94, 95, 96, 124, 126] : List Int32).contains c
def alB (c : Int32) : Bool := (!decide (c < (97 : Int32)) && !decide ((122 : Int32) < c)) || (!decide (c < (65 : Int32)) && !decide ((90 : Int32) < c)) || (!decide (c < (48 : Int32)) && !decide ((57 : Int32) < c))
def tokB (c : Int32) : Bool := alB c || symB c
theorem al_no {c : Int32} (z1 : c < (97 : Int32) ∨ (122 : Int32) < c) (z2 : c < (65 : Int32) ∨ (90 : Int32) < c) (z3 : c < (48 : Int32) ∨ (57 : Int32) < c) : ¬ alB c = true := by
  unfold alB; rcases z1 with a | a <;> rcases z2 with b | b <;> rcases z3 with d | d <;> simp only [a, b, d, decide_true, Bool.not_true, Bool.false_and, Bool.and_false, Bool.or_self, Bool.false_eq_true, not_false_eq_true]
theorem al_1 {c : Int32} (g1 : ¬ c < (97 : Int32)) (g2 : ¬ (122 : Int32) < c) : alB c = true := by unfold alB; simp only [g1, g2, decide_false, Bool.not_false, Bool.and_self, Bool.true_or, Bool.or_true]
theorem al_2 {c : Int32} (g1 : ¬ c < (65 : Int32)) (g2 : ¬ (90 : Int32) < c) : alB c = true := by unfold alB; simp only [g1, g2, decide_false, Bool.not_false, Bool.and_self, Bool.true_or, Bool.or_true]
theorem al_3 {c : Int32} (g1 : ¬ c < (48 : Int32)) (g2 : ¬ (57 : Int32) < c) : alB c = true := by unfold alB; simp only [g1, g2, decide_false, Bool.not_false, Bool.and_self, Bool.true_or, Bool.or_true]
theorem tok_al {c : Int32} (h : alB c = true) : tokB c = true := by unfold tokB; rw [h]; rfl
theorem tok_sy {c : Int32} (h : symB c = true) : tokB c = true := by unfold tokB; rw [h, Bool.or_true]
theorem tok_no {c : Int32} (h : ¬ alB c = true) (h2 : ¬ symB c = true) : ¬ tokB c = true := fun q => by unfold tokB at q; rw [Bool.or_eq_true] at q; exact q.elim h h2
theorem nat256 (c : Int32) (h0 : ¬ c < 0) (h1 : ¬ (255 : Int32) < c) : ∃ k : Fin 256, c = Int32.ofNat k.val := by
  rw [Int32.lt_iff_toInt_lt] at h0 h1
  have e0 : (0 : Int32).toInt = 0 := rfl
  have e1 : (255 : Int32).toInt = 255 := rfl
  refine ⟨⟨c.toInt.toNat, by omega⟩, Int32.toInt_inj.mp ?_⟩
  show _ = (Int32.ofNat c.toInt.toNat).toInt
  rw [Int32.toInt_ofNat_small (show c.toInt.toNat < 2 ^ 31 by omega)]; omega
theorem b8_eq (c n : Int32) (h0 : ¬ c < 0) (h1 : ¬ (255 : Int32) < c) (hn : n ∈ ([33, 35, 36, 37, 38, 39, 42, 43, 45, 46, 94, 95, 96, 124, 126] : List Int32)) (q : n = c.toInt8.toInt32) : symB c = true := by
  obtain ⟨k, rfl⟩ := nat256 c h0 h1
  have t : ∀ k : Fin 256, ∀ n ∈ ([33, 35, 36, 37, 38, 39, 42, 43, 45, 46, 94, 95, 96, 124, 126] : List Int32), n = (Int32.ofNat k.val).toInt8.toInt32 → symB (Int32.ofNat k.val) = true := by decide +kernel
  exact t k n hn q
theorem sym_cases {c : Int32} (h : symB c = true) : c = 33 ∨ c = 35 ∨ c = 36 ∨ c = 37 ∨ c = 38 ∨ c = 39 ∨ c = 42 ∨ c = 43 ∨ c = 45 ∨ c = 46 ∨ c = 94 ∨ c = 95 ∨ c = 96 ∨ c = 124 ∨ c = 126 := by
  have := List.contains_iff_mem.mp h
  simpa using this
theorem tok_hi {c : Int32} (h : (126 : Int32) < c) : ¬ tokB c = true := fun q => by
  rw [Int32.lt_iff_toInt_lt] at h
  have e1 : (126 : Int32).toInt = 126 := rfl
  have e2 : (122 : Int32).toInt = 122 := rfl
  have e3 : (90 : Int32).toInt = 90 := rfl
  have e4 : (57 : Int32).toInt = 57 := rfl
  have a : alB c = false := by
    have z1 : (122 : Int32) < c := by rw [Int32.lt_iff_toInt_lt]; omega
    have z2 : (90 : Int32) < c := by rw [Int32.lt_iff_toInt_lt]; omega
    have z3 : (57 : Int32) < c := by rw [Int32.lt_iff_toInt_lt]; omega
    simp [alB, z1, z2, z3]
  have b : symB c = true := by simpa [tokB, a] using q
  have := sym_cases b
  rcases this with rfl | rfl | rfl | rfl | rfl | rfl | rfl | rfl | rfl | rfl | rfl | rfl | rfl | rfl | rfl <;> exact absurd h (by decide)
theorem tok_mid (c : Int32) (h0 : ¬ c < 0) (h1 : ¬ (126 : Int32) < c) : ∃ k : Fin 127, c = Int32.ofNat k.val := by
  rw [Int32.lt_iff_toInt_lt] at h0 h1
  have e0 : (0 : Int32).toInt = 0 := rfl
  have e1 : (126 : Int32).toInt = 126 := rfl
  refine ⟨⟨c.toInt.toNat, by omega⟩, Int32.toInt_inj.mp ?_⟩
  show _ = (Int32.ofNat c.toInt.toNat).toInt
  rw [Int32.toInt_ofNat_small (show c.toInt.toNat < 2 ^ 31 by omega)]; omega
theorem tok_lo {c : Int32} (h0 : ¬ c < 0) (h : c < (33 : Int32)) : ¬ tokB c = true := by
  have h1 : ¬ (126 : Int32) < c := fun q => by rw [Int32.lt_iff_toInt_lt] at q h; have e1 : (126 : Int32).toInt = 126 := rfl; have e2 : (33 : Int32).toInt = 33 := rfl; omega
  obtain ⟨k, rfl⟩ := tok_mid c h0 h1
  have t : ∀ k : Fin 127, Int32.ofNat k.val < (33 : Int32) → ¬ tokB (Int32.ofNat k.val) = true := by decide +kernel
  exact t k h
theorem tok_in {c : Int32} (h0 : ¬ c < (33 : Int32)) (h1 : ¬ (126 : Int32) < c) (hd : ¬ c ∈ ([34, 40, 41, 44, 47, 58, 59, 60, 61, 62, 63, 64, 91, 92, 93, 123, 125] : List Int32)) : tokB c = true := by
  have h2 : ¬ c < 0 := fun q => by rw [Int32.lt_iff_toInt_lt] at q h0; have e1 : (0 : Int32).toInt = 0 := rfl; have e2 : (33 : Int32).toInt = 33 := rfl; omega
  obtain ⟨k, rfl⟩ := tok_mid c h2 h1
  have t : ∀ k : Fin 127, ¬ Int32.ofNat k.val < (33 : Int32) → ¬ Int32.ofNat k.val ∈ ([34, 40, 41, 44, 47, 58, 59, 60, 61, 62, 63, 64, 91, 92, 93, 123, 125] : List Int32) → tokB (Int32.ofNat k.val) = true := by decide +kernel
  exact t k h0 hd
theorem dci_0 : decode jdk_43_method_4_code 0 = .ok (.iload_n 0, 1) := by decide +kernel
theorem dci_1 : decode jdk_43_method_4_code 1 = .ok (.ifCond .lt 14, 3) := by decide +kernel
theorem dci_4 : decode jdk_43_method_4_code 4 = .ok (.iload_n 0, 1) := by decide +kernel
theorem dci_5 : decode jdk_43_method_4_code 5 = .ok (.sipush 255, 3) := by decide +kernel
theorem dci_8 : decode jdk_43_method_4_code 8 = .ok (.if_icmp .gt 7, 3) := by decide +kernel
theorem dci_11 : decode jdk_43_method_4_code 11 = .ok (.iconst 1, 1) := by decide +kernel
theorem dci_12 : decode jdk_43_method_4_code 12 = .ok (.goto 4, 3) := by decide +kernel
theorem dci_15 : decode jdk_43_method_4_code 15 = .ok (.iconst 0, 1) := by decide +kernel
theorem dci_16 : decode jdk_43_method_4_code 16 = .ok (.ireturn, 1) := by decide +kernel
theorem pn_canI : plainFor (⟨"java/lang/StringLatin1", "canEncode", "(I)Z"⟩ : MethodName) = true := by first | exact plainFor_of_name (by first | (simp [plainName, overriddenIn]; done) | decide +kernel) | exact Jvm.Free.JP.mathPlain rfl (by decide +kernel)
theorem ef_canI (m : MethodId) (x0 : Int32) : entryFrame m #[(.int x0)] 1 = mkF m 0 #[vI x0] [] := by first | (simp [entryFrame, mkF, argsToLocals, Value.category]; done) | rfl
def Q_canI (Z : State) (ch : Int32) (h0 : Heap) (n0 : Nat) (v : Option Value) (h : Heap) (L : List Loc) : Prop := ∃ r, v = some (.int r) ∧ Fr n0 L ∧ h = h0 ∧ (¬ (255 : Int32) < ch → r = 1) ∧ ((255 : Int32) < ch → r = 0)
set_option maxRecDepth 65536 in
set_option maxHeartbeats 40000000 in
theorem rm_canI (l : Launch) (Z : State) (a0 : Array Value) (hw : ∀ d ∈ tables_1, d.before a0 Z = true) (ws : List Jvm.Cond) (ch : Int32) (h0 : Heap) (n0 : Nat) (Z0 : n0 ≤ h0.size) (hc : ¬ ch < 0) :
    MetFree l (⟨"java/lang/StringLatin1", "canEncode", "(I)Z"⟩ : MethodName) (head1 (Jvm.Cond.code (⟨"java/lang/StringLatin1", "canEncode", "(I)Z"⟩ : MethodName) jdk_43_method_4_code 1 (some .boolean) :: ws) ({ frames := 0, cells := 0, slots := 0, locals := 0 } : Room)) (fun a U => a = #[(.int ch)] ∧ Z.Warmed39 U.vm ∧ U.heap = h0) (fun _ _ _ _ _ => True) (fun _ U o U' => ∃ v L, o = .returned v ∧ Q_canI Z ch h0 n0 v U'.heap L ∧ FrameEnd U o U' L ({ frames := 0, cells := 0, slots := 0, locals := 0 } : Room).cells ({ frames := 0, cells := 0, slots := 0, locals := 0 } : Room).slots) := by
  refine MetFree.of_bodySF pn_canI hisR ?_
  intro p e s m args below meth c s₁ Bd hml0 hP hK
  obtain ⟨rfl, hZ, hh⟩ := hP
  have hx := Bd.exec
  have hby := Bd.bytes
  have hml : c.maxLocals = 1 := hml0
  have hown : s.vm.findClass "java/lang/StringLatin1" = some m.cls := findClass_of_methodNamed Bd.named
  have hnm := (name_of_methodNamed Bd.named Bd.method).1
  have X0 : Stand p l e ({ frames := 0, cells := 0, slots := 0, locals := 0 } : Room) s m #[(.int ch)] below meth c s₁ [] 0 0 := Stand.of_body Bd
  have e0 : s₁.heap = h0 := by rw [← hh, Bd.state]; rfl
  have N0 := Fr.nil n0
  show Rch p e below s₁ (entryFrame m #[(.int ch)] 1) (fun U o => ∃ v L, o = .returned v ∧ Q_canI Z ch h0 n0 v U.heap L ∧ FrameEnd s o U L ({ frames := 0, cells := 0, slots := 0, locals := 0 } : Room).cells ({ frames := 0, cells := 0, slots := 0, locals := 0 } : Room).slots)
  refine Rch.cast (ef_canI m ch) ?_
  show Rch p e below s₁ (mkF m 0 #[vI ch] []) _
  refine Rch.st (fun _ k => XS.iloadN X0.here hx rfl (hb hby dci_0) rfl k) ?_
  refine Rch.st (fun _ k => XS.ifNo X0.here hx rfl (hb hby dci_1) rfl ((if0 _ _).trans (flt hc).1) k) ?_
  show Rch p e below s₁ (mkF m 4 #[vI ch] []) _
  refine Rch.st (fun _ k => XS.iloadN X0.here hx rfl (hb hby dci_4) rfl k) ?_
  refine Rch.st (fun _ k => XS.sipush X0.here hx rfl (hb hby dci_5)  k) ?_
  show Rch p e below s₁ (mkF m 8 #[vI ch] [(.int (255 : Int32)), (.int ch)]) _
  by_cases hq : (255 : Int32) < ch
  · skip
    refine Rch.st (fun _ k => XS.icmpYes X0.here hx rfl (pc0 := 8) (pc' := 15) rfl (hb hby dci_8) rfl (tlt hq).2.2.1 (by decide) (by decide) k) ?_
    refine Rch.st (fun _ k => XS.iconst X0.here hx rfl (hb hby dci_15)  k) ?_
    show Rch p e below s₁ (mkF m 16 #[vI ch] [(.int (0 : Int32))]) _
    exact Rch.fin (Q := Q_canI Z ch h0 n0) X0 (v := some (.int (0 : Int32))) (fun h => by rw [Bd.returns] at h; cases h) (BodyLoose.notSynchronized Bd) (fun fs hr => retN X0 hx (t := .boolean) Bd.returns (by simp) (hb hby dci_16) hr) (by rw [e0]; exact ⟨0, rfl, N0, rfl, fun q => absurd hq q, fun _ => rfl⟩) (by decide) (by decide)
  · skip
    refine Rch.st (fun _ k => XS.icmpNo X0.here hx rfl (hb hby dci_8) rfl (flt hq).2.2.1 k) ?_
    refine Rch.st (fun _ k => XS.iconst X0.here hx rfl (hb hby dci_11)  k) ?_
    show Rch p e below s₁ (mkF m 12 #[vI ch] [(.int (1 : Int32))]) _
    refine Rch.st (fun _ k => XS.goto X0.here hx rfl (pc0 := 12) (pc' := 16) rfl (hb hby dci_12) (by decide) (by decide) k) ?_
    show Rch p e below s₁ (mkF m 16 #[vI ch] [(.int (1 : Int32))]) _
    exact Rch.fin (Q := Q_canI Z ch h0 n0) X0 (v := some (.int (1 : Int32))) (fun h => by rw [Bd.returns] at h; cases h) (BodyLoose.notSynchronized Bd) (fun fs hr => retN X0 hx (t := .boolean) Bd.returns (by simp) (hb hby dci_16) hr) (by rw [e0]; exact ⟨1, rfl, N0, rfl, fun _ => rfl, fun q => absurd q hq⟩) (by decide) (by decide)
theorem dmx_0 : decode jdk_29_method_65_code 0 = .ok (.iload_n 0, 1) := by decide +kernel
theorem dmx_1 : decode jdk_29_method_65_code 1 = .ok (.iload_n 1, 1) := by decide +kernel
theorem dmx_2 : decode jdk_29_method_65_code 2 = .ok (.if_icmp .lt 7, 3) := by decide +kernel
theorem dmx_5 : decode jdk_29_method_65_code 5 = .ok (.iload_n 0, 1) := by decide +kernel
theorem dmx_6 : decode jdk_29_method_65_code 6 = .ok (.goto 4, 3) := by decide +kernel
theorem dmx_9 : decode jdk_29_method_65_code 9 = .ok (.iload_n 1, 1) := by decide +kernel
theorem dmx_10 : decode jdk_29_method_65_code 10 = .ok (.ireturn, 1) := by decide +kernel
theorem pn_max0 : plainFor (⟨"java/lang/Math", "max", "(II)I"⟩ : MethodName) = true := by first | exact plainFor_of_name (by first | (simp [plainName, overriddenIn]; done) | decide +kernel) | exact Jvm.Free.JP.mathPlain rfl (by decide +kernel)
theorem ef_max0 (m : MethodId) (x0 : Int32) (x1 : Int32) : entryFrame m #[(.int x0), (.int x1)] 2 = mkF m 0 #[vI x0, vI x1] [] := by first | (simp [entryFrame, mkF, argsToLocals, Value.category]; done) | rfl
def Q_max0 (Z : State)  (h0 : Heap) (n0 : Nat) (v : Option Value) (h : Heap) (L : List Loc) : Prop := v = some (.int (0 : Int32)) ∧ Fr n0 L ∧ h = h0
set_option maxRecDepth 65536 in
set_option maxHeartbeats 40000000 in
theorem rm_max0 (l : Launch) (Z : State) (a0 : Array Value) (hw : ∀ d ∈ tables_1, d.before a0 Z = true) (ws : List Jvm.Cond) (h0 : Heap) (n0 : Nat) (Z0 : n0 ≤ h0.size) :
    MetFree l (⟨"java/lang/Math", "max", "(II)I"⟩ : MethodName) (head1 (Jvm.Cond.code (⟨"java/lang/Math", "max", "(II)I"⟩ : MethodName) jdk_29_method_65_code 2 (some .int) :: ws) ({ frames := 0, cells := 0, slots := 0, locals := 0 } : Room)) (fun a U => a = #[(.int (0 : Int32)), (.int (0 : Int32))] ∧ Z.Warmed39 U.vm ∧ U.heap = h0) (fun _ _ _ _ _ => True) (fun _ U o U' => ∃ v L, o = .returned v ∧ Q_max0 Z  h0 n0 v U'.heap L ∧ FrameEnd U o U' L ({ frames := 0, cells := 0, slots := 0, locals := 0 } : Room).cells ({ frames := 0, cells := 0, slots := 0, locals := 0 } : Room).slots) := by
  refine MetFree.of_bodySF pn_max0 hisR ?_
  intro p e s m args below meth c s₁ Bd hml0 hP hK
  obtain ⟨rfl, hZ, hh⟩ := hP
  have hx := Bd.exec
  have hby := Bd.bytes
  have hml : c.maxLocals = 2 := hml0
  have hown : s.vm.findClass "java/lang/Math" = some m.cls := findClass_of_methodNamed Bd.named
  have hnm := (name_of_methodNamed Bd.named Bd.method).1
  have X0 : Stand p l e ({ frames := 0, cells := 0, slots := 0, locals := 0 } : Room) s m #[(.int (0 : Int32)), (.int (0 : Int32))] below meth c s₁ [] 0 0 := Stand.of_body Bd
  have e0 : s₁.heap = h0 := by rw [← hh, Bd.state]; rfl
  have N0 := Fr.nil n0
  show Rch p e below s₁ (entryFrame m #[(.int (0 : Int32)), (.int (0 : Int32))] 2) (fun U o => ∃ v L, o = .returned v ∧ Q_max0 Z  h0 n0 v U.heap L ∧ FrameEnd s o U L ({ frames := 0, cells := 0, slots := 0, locals := 0 } : Room).cells ({ frames := 0, cells := 0, slots := 0, locals := 0 } : Room).slots)
  refine Rch.cast (ef_max0 m (0 : Int32) (0 : Int32)) ?_
  show Rch p e below s₁ (mkF m 0 #[vI (0 : Int32), vI (0 : Int32)] []) _
  refine Rch.st (fun _ k => XS.iloadN X0.here hx rfl (hb hby dmx_0) rfl k) ?_
  refine Rch.st (fun _ k => XS.iloadN X0.here hx rfl (hb hby dmx_1) rfl k) ?_
  show Rch p e below s₁ (mkF m 2 #[vI (0 : Int32), vI (0 : Int32)] [(.int (0 : Int32)), (.int (0 : Int32))]) _
  refine Rch.st (fun _ k => XS.icmpNo X0.here hx rfl (hb hby dmx_2) rfl (by decide : if_icmp.holds .lt (0 : Int32) (0 : Int32) = false) k) ?_
  refine Rch.st (fun _ k => XS.iloadN X0.here hx rfl (hb hby dmx_5) rfl k) ?_
  show Rch p e below s₁ (mkF m 6 #[vI (0 : Int32), vI (0 : Int32)] [(.int (0 : Int32))]) _
  refine Rch.st (fun _ k => XS.goto X0.here hx rfl (pc0 := 6) (pc' := 10) rfl (hb hby dmx_6) (by decide) (by decide) k) ?_
  show Rch p e below s₁ (mkF m 10 #[vI (0 : Int32), vI (0 : Int32)] [(.int (0 : Int32))]) _
  exact Rch.fin (Q := Q_max0 Z  h0 n0) X0 (v := some (.int (0 : Int32))) (fun h => by rw [Bd.returns] at h; cases h) (BodyLoose.notSynchronized Bd) (fun fs hr => retI X0 hx Bd.returns (hb hby dmx_10) hr) (by rw [e0]; exact ⟨rfl, N0, rfl⟩) (by decide) (by decide)
theorem dmn_0 : decode jdk_29_method_69_code 0 = .ok (.iload_n 0, 1) := by decide +kernel
theorem dmn_1 : decode jdk_29_method_69_code 1 = .ok (.iload_n 1, 1) := by decide +kernel
theorem dmn_2 : decode jdk_29_method_69_code 2 = .ok (.if_icmp .gt 7, 3) := by decide +kernel
theorem dmn_5 : decode jdk_29_method_69_code 5 = .ok (.iload_n 0, 1) := by decide +kernel
theorem dmn_6 : decode jdk_29_method_69_code 6 = .ok (.goto 4, 3) := by decide +kernel
theorem dmn_9 : decode jdk_29_method_69_code 9 = .ok (.iload_n 1, 1) := by decide +kernel
theorem dmn_10 : decode jdk_29_method_69_code 10 = .ok (.ireturn, 1) := by decide +kernel
theorem pn_min15 : plainFor (⟨"java/lang/Math", "min", "(II)I"⟩ : MethodName) = true := by first | exact plainFor_of_name (by first | (simp [plainName, overriddenIn]; done) | decide +kernel) | exact Jvm.Free.JP.mathPlain rfl (by decide +kernel)
theorem ef_min15 (m : MethodId) (x0 : Int32) (x1 : Int32) : entryFrame m #[(.int x0), (.int x1)] 2 = mkF m 0 #[vI x0, vI x1] [] := by first | (simp [entryFrame, mkF, argsToLocals, Value.category]; done) | rfl
def Q_min15 (Z : State)  (h0 : Heap) (n0 : Nat) (v : Option Value) (h : Heap) (L : List Loc) : Prop := v = some (.int (15 : Int32)) ∧ Fr n0 L ∧ h = h0
set_option maxRecDepth 65536 in
set_option maxHeartbeats 40000000 in
theorem rm_min15 (l : Launch) (Z : State) (a0 : Array Value) (hw : ∀ d ∈ tables_1, d.before a0 Z = true) (ws : List Jvm.Cond) (h0 : Heap) (n0 : Nat) (Z0 : n0 ≤ h0.size) :
    MetFree l (⟨"java/lang/Math", "min", "(II)I"⟩ : MethodName) (head1 (Jvm.Cond.code (⟨"java/lang/Math", "min", "(II)I"⟩ : MethodName) jdk_29_method_69_code 2 (some .int) :: ws) ({ frames := 0, cells := 0, slots := 0, locals := 0 } : Room)) (fun a U => a = #[(.int (15 : Int32)), (.int (15 : Int32))] ∧ Z.Warmed39 U.vm ∧ U.heap = h0) (fun _ _ _ _ _ => True) (fun _ U o U' => ∃ v L, o = .returned v ∧ Q_min15 Z  h0 n0 v U'.heap L ∧ FrameEnd U o U' L ({ frames := 0, cells := 0, slots := 0, locals := 0 } : Room).cells ({ frames := 0, cells := 0, slots := 0, locals := 0 } : Room).slots) := by
  refine MetFree.of_bodySF pn_min15 hisR ?_
  intro p e s m args below meth c s₁ Bd hml0 hP hK
  obtain ⟨rfl, hZ, hh⟩ := hP
  have hx := Bd.exec
  have hby := Bd.bytes
  have hml : c.maxLocals = 2 := hml0
  have hown : s.vm.findClass "java/lang/Math" = some m.cls := findClass_of_methodNamed Bd.named
  have hnm := (name_of_methodNamed Bd.named Bd.method).1
  have X0 : Stand p l e ({ frames := 0, cells := 0, slots := 0, locals := 0 } : Room) s m #[(.int (15 : Int32)), (.int (15 : Int32))] below meth c s₁ [] 0 0 := Stand.of_body Bd
  have e0 : s₁.heap = h0 := by rw [← hh, Bd.state]; rfl
  have N0 := Fr.nil n0
  show Rch p e below s₁ (entryFrame m #[(.int (15 : Int32)), (.int (15 : Int32))] 2) (fun U o => ∃ v L, o = .returned v ∧ Q_min15 Z  h0 n0 v U.heap L ∧ FrameEnd s o U L ({ frames := 0, cells := 0, slots := 0, locals := 0 } : Room).cells ({ frames := 0, cells := 0, slots := 0, locals := 0 } : Room).slots)
  refine Rch.cast (ef_min15 m (15 : Int32) (15 : Int32)) ?_
  show Rch p e below s₁ (mkF m 0 #[vI (15 : Int32), vI (15 : Int32)] []) _
  refine Rch.st (fun _ k => XS.iloadN X0.here hx rfl (hb hby dmn_0) rfl k) ?_
  refine Rch.st (fun _ k => XS.iloadN X0.here hx rfl (hb hby dmn_1) rfl k) ?_
  show Rch p e below s₁ (mkF m 2 #[vI (15 : Int32), vI (15 : Int32)] [(.int (15 : Int32)), (.int (15 : Int32))]) _
  refine Rch.st (fun _ k => XS.icmpNo X0.here hx rfl (hb hby dmn_2) rfl (by decide : if_icmp.holds .gt (15 : Int32) (15 : Int32) = false) k) ?_
  refine Rch.st (fun _ k => XS.iloadN X0.here hx rfl (hb hby dmn_5) rfl k) ?_
  show Rch p e below s₁ (mkF m 6 #[vI (15 : Int32), vI (15 : Int32)] [(.int (15 : Int32))]) _
  refine Rch.st (fun _ k => XS.goto X0.here hx rfl (pc0 := 6) (pc' := 10) rfl (hb hby dmn_6) (by decide) (by decide) k) ?_
  show Rch p e below s₁ (mkF m 10 #[vI (15 : Int32), vI (15 : Int32)] [(.int (15 : Int32))]) _
  exact Rch.fin (Q := Q_min15 Z  h0 n0) X0 (v := some (.int (15 : Int32))) (fun h => by rw [Bd.returns] at h; cases h) (BodyLoose.notSynchronized Bd) (fun fs hr => retI X0 hx Bd.returns (hb hby dmn_10) hr) (by rw [e0]; exact ⟨rfl, N0, rfl⟩) (by decide) (by decide)
theorem dic_0 : decode jdk_43_method_23_code 0 = .ok (.iload_n 1, 1) := by decide +kernel
theorem dic_1 : decode jdk_43_method_23_code 1 = .ok (.i2b, 1) := by decide +kernel
theorem dic_2 : decode jdk_43_method_23_code 2 = .ok (.istore 4, 2) := by decide +kernel
theorem dic_4 : decode jdk_43_method_23_code 4 = .ok (.iload_n 2, 1) := by decide +kernel
theorem dic_5 : decode jdk_43_method_23_code 5 = .ok (.istore 5, 2) := by decide +kernel
theorem dic_7 : decode jdk_43_method_23_code 7 = .ok (.iload 5, 2) := by decide +kernel
theorem dic_9 : decode jdk_43_method_23_code 9 = .ok (.iload_n 3, 1) := by decide +kernel
theorem dic_10 : decode jdk_43_method_23_code 10 = .ok (.if_icmp .ge 21, 3) := by decide +kernel
theorem dic_13 : decode jdk_43_method_23_code 13 = .ok (.aload_n 0, 1) := by decide +kernel
theorem dic_14 : decode jdk_43_method_23_code 14 = .ok (.iload 5, 2) := by decide +kernel
theorem dic_16 : decode jdk_43_method_23_code 16 = .ok (.baload, 1) := by decide +kernel
theorem dic_17 : decode jdk_43_method_23_code 17 = .ok (.iload 4, 2) := by decide +kernel
theorem dic_19 : decode jdk_43_method_23_code 19 = .ok (.if_icmp .ne 6, 3) := by decide +kernel
theorem dic_22 : decode jdk_43_method_23_code 22 = .ok (.iload 5, 2) := by decide +kernel
theorem dic_24 : decode jdk_43_method_23_code 24 = .ok (.ireturn, 1) := by decide +kernel
theorem dic_25 : decode jdk_43_method_23_code 25 = .ok (.iinc 5 1, 3) := by decide +kernel
theorem dic_28 : decode jdk_43_method_23_code 28 = .ok (.goto (-21), 3) := by decide +kernel
theorem dic_31 : decode jdk_43_method_23_code 31 = .ok (.iconst (-1), 1) := by decide +kernel
theorem dic_32 : decode jdk_43_method_23_code 32 = .ok (.ireturn, 1) := by decide +kernel
theorem pn_idxc : plainFor (⟨"java/lang/StringLatin1", "indexOfChar", "([BIII)I"⟩ : MethodName) = true := by first | exact plainFor_of_name (by first | (simp [plainName, overriddenIn]; done) | decide +kernel) | exact Jvm.Free.JP.mathPlain rfl (by decide +kernel)
theorem ef_idxc (m : MethodId) (x0 : Addr) (x1 : Int32) (x2 : Int32) (x3 : Int32) : entryFrame m #[(.ref x0), (.int x1), (.int x2), (.int x3)] 6 = mkF m 0 #[vR x0, vI x1, vI x2, vI x3, .unset, .unset] [] := by first | (simp [entryFrame, mkF, argsToLocals, Value.category]; done) | rfl
def Q_idxc (Z : State) (tb : Addr) (kb : ClassId) (ch : Int32) (h0 : Heap) (n0 : Nat) (v : Option Value) (h : Heap) (L : List Loc) : Prop := ∃ r, v = some (.int r) ∧ Fr n0 L ∧ h = h0 ∧ (symB ch = true → ¬ r < 0) ∧ (¬ symB ch = true → r < 0)
set_option maxRecDepth 65536 in
set_option maxHeartbeats 40000000 in
theorem rm_idxc (l : Launch) (Z : State) (a0 : Array Value) (hw : ∀ d ∈ tables_1, d.before a0 Z = true) (ws : List Jvm.Cond) (tb : Addr) (kb : ClassId) (ch : Int32) (h0 : Heap) (n0 : Nat) (Z0 : n0 ≤ h0.size) (hc : ¬ ch < 0) (hc2 : ¬ (255 : Int32) < ch) (M : Arv Z h0 tb kb .byte (15 : Int32) [(.int (33 : Int32)), (.int (35 : Int32)), (.int (36 : Int32)), (.int (37 : Int32)), (.int (38 : Int32)), (.int (39 : Int32)), (.int (42 : Int32)), (.int (43 : Int32)), (.int (45 : Int32)), (.int (46 : Int32)), (.int (94 : Int32)), (.int (95 : Int32)), (.int (96 : Int32)), (.int (124 : Int32)), (.int (126 : Int32))] (.int 0)) :
    MetFree l (⟨"java/lang/StringLatin1", "indexOfChar", "([BIII)I"⟩ : MethodName) (head1 (Jvm.Cond.code (⟨"java/lang/StringLatin1", "indexOfChar", "([BIII)I"⟩ : MethodName) jdk_43_method_23_code 6 (some .int) :: ws) ({ frames := 0, cells := 0, slots := 0, locals := 0 } : Room)) (fun a U => a = #[(.ref tb), (.int ch), (.int (0 : Int32)), (.int (15 : Int32))] ∧ Z.Warmed39 U.vm ∧ U.heap = h0) (fun _ _ _ _ _ => True) (fun _ U o U' => ∃ v L, o = .returned v ∧ Q_idxc Z tb kb ch h0 n0 v U'.heap L ∧ FrameEnd U o U' L ({ frames := 0, cells := 0, slots := 0, locals := 0 } : Room).cells ({ frames := 0, cells := 0, slots := 0, locals := 0 } : Room).slots) := by
  refine MetFree.of_bodySF pn_idxc hisR ?_
  intro p e s m args below meth c s₁ Bd hml0 hP hK
  obtain ⟨rfl, hZ, hh⟩ := hP
  have hx := Bd.exec
  have hby := Bd.bytes
  have hml : c.maxLocals = 6 := hml0
  have hown : s.vm.findClass "java/lang/StringLatin1" = some m.cls := findClass_of_methodNamed Bd.named
  have hnm := (name_of_methodNamed Bd.named Bd.method).1
  have X0 : Stand p l e ({ frames := 0, cells := 0, slots := 0, locals := 0 } : Room) s m #[(.ref tb), (.int ch), (.int (0 : Int32)), (.int (15 : Int32))] below meth c s₁ [] 0 0 := Stand.of_body Bd
  have e0 : s₁.heap = h0 := by rw [← hh, Bd.state]; rfl
  have N0 := Fr.nil n0
  show Rch p e below s₁ (entryFrame m #[(.ref tb), (.int ch), (.int (0 : Int32)), (.int (15 : Int32))] 6) (fun U o => ∃ v L, o = .returned v ∧ Q_idxc Z tb kb ch h0 n0 v U.heap L ∧ FrameEnd s o U L ({ frames := 0, cells := 0, slots := 0, locals := 0 } : Room).cells ({ frames := 0, cells := 0, slots := 0, locals := 0 } : Room).slots)
  refine Rch.cast (ef_idxc m tb ch (0 : Int32) (15 : Int32)) ?_
  show Rch p e below s₁ (mkF m 0 #[vR tb, vI ch, vI (0 : Int32), vI (15 : Int32), .unset, .unset] []) _
  refine Rch.st (fun _ k => XS.iloadN X0.here hx rfl (hb hby dic_0) rfl k) ?_
  show Rch p e below s₁ (mkF m 1 #[vR tb, vI ch, vI (0 : Int32), vI (15 : Int32), .unset, .unset] [(.int ch)]) _
  refine Rch.st (fun _ k => XT.i2b X0.here hx rfl (hb hby dic_1) rfl k) ?_
  show Rch p e below s₁ (mkF m 2 #[vR tb, vI ch, vI (0 : Int32), vI (15 : Int32), .unset, .unset] [(.int (ch.toInt8.toInt32))]) _
  refine Rch.st (fun _ k => XS.istore X0.here hx rfl (hb hby dic_2) rfl (l' := #[vR tb, vI ch, vI (0 : Int32), vI (15 : Int32), vI (ch.toInt8.toInt32), .unset]) rfl k) ?_
  refine Rch.st (fun _ k => XS.iloadN X0.here hx rfl (hb hby dic_4) rfl k) ?_
  show Rch p e below s₁ (mkF m 5 #[vR tb, vI ch, vI (0 : Int32), vI (15 : Int32), vI (ch.toInt8.toInt32), .unset] [(.int (0 : Int32))]) _
  refine Rch.st (fun _ k => XS.istore X0.here hx rfl (hb hby dic_5) rfl (l' := #[vR tb, vI ch, vI (0 : Int32), vI (15 : Int32), vI (ch.toInt8.toInt32), vI (0 : Int32)]) rfl k) ?_
  refine Rch.st (fun _ k => XS.iload X0.here hx rfl (hb hby dic_7) rfl k) ?_
  show Rch p e below s₁ (mkF m 9 #[vR tb, vI ch, vI (0 : Int32), vI (15 : Int32), vI (ch.toInt8.toInt32), vI (0 : Int32)] [(.int (0 : Int32))]) _
  refine Rch.st (fun _ k => XS.iloadN X0.here hx rfl (hb hby dic_9) rfl k) ?_
  refine Rch.st (fun _ k => XS.icmpNo X0.here hx rfl (hb hby dic_10) rfl (by decide : if_icmp.holds .ge (0 : Int32) (15 : Int32) = false) k) ?_
  show Rch p e below s₁ (mkF m 13 #[vR tb, vI ch, vI (0 : Int32), vI (15 : Int32), vI (ch.toInt8.toInt32), vI (0 : Int32)] []) _
  refine Rch.st (fun _ k => XS.aloadN X0.here hx rfl (hb hby dic_13) rfl rfl k) ?_
  refine Rch.st (fun _ k => XS.iload X0.here hx rfl (hb hby dic_14) rfl k) ?_
  show Rch p e below s₁ (mkF m 16 #[vR tb, vI ch, vI (0 : Int32), vI (15 : Int32), vI (ch.toInt8.toInt32), vI (0 : Int32)] [(.int (0 : Int32)), (.ref tb)]) _
  refine Rch.st (balA X0 hx hZ e0 M ⟨by decide, by decide⟩ (v := (.int (33 : Int32))) rfl (g := (mkF m 16 #[vR tb, vI ch, vI (0 : Int32), vI (15 : Int32), vI (ch.toInt8.toInt32), vI (0 : Int32)] [(.int (0 : Int32)), (.ref tb)])) rfl rfl (hb hby dic_16)) ?_
  show Rch p e below s₁ (mkF m 17 #[vR tb, vI ch, vI (0 : Int32), vI (15 : Int32), vI (ch.toInt8.toInt32), vI (0 : Int32)] [(.int (33 : Int32))]) _
  refine Rch.st (fun _ k => XS.iload X0.here hx rfl (hb hby dic_17) rfl k) ?_
  show Rch p e below s₁ (mkF m 19 #[vR tb, vI ch, vI (0 : Int32), vI (15 : Int32), vI (ch.toInt8.toInt32), vI (0 : Int32)] [(.int (ch.toInt8.toInt32)), (.int (33 : Int32))]) _
  by_cases hj0 : (33 : Int32) = (ch.toInt8.toInt32)
  · skip
    refine Rch.st (fun _ k => XS.icmpNo X0.here hx rfl (hb hby dic_19) rfl (teq hj0).2 k) ?_
    refine Rch.st (fun _ k => XS.iload X0.here hx rfl (hb hby dic_22) rfl k) ?_
    show Rch p e below s₁ (mkF m 24 #[vR tb, vI ch, vI (0 : Int32), vI (15 : Int32), vI (ch.toInt8.toInt32), vI (0 : Int32)] [(.int (0 : Int32))]) _
    exact Rch.fin (Q := Q_idxc Z tb kb ch h0 n0) X0 (v := some (.int (0 : Int32))) (fun h => by rw [Bd.returns] at h; cases h) (BodyLoose.notSynchronized Bd) (fun fs hr => retI X0 hx Bd.returns (hb hby dic_24) hr) (by rw [e0]; exact ⟨(0 : Int32), rfl, N0, rfl, fun _ => by decide, fun q => absurd (b8_eq ch _ hc hc2 (by decide) hj0) q⟩) (by decide) (by decide)
  · skip
    refine Rch.st (fun _ k => XS.icmpYes X0.here hx rfl (pc0 := 19) (pc' := 25) rfl (hb hby dic_19) rfl (feq hj0).2 (by decide) (by decide) k) ?_
    refine Rch.st (fun _ k => XS.iinc X0.here hx rfl (hb hby dic_25) rfl (l' := #[vR tb, vI ch, vI (0 : Int32), vI (15 : Int32), vI (ch.toInt8.toInt32), vI (1 : Int32)]) rfl k) ?_
    show Rch p e below s₁ (mkF m 28 #[vR tb, vI ch, vI (0 : Int32), vI (15 : Int32), vI (ch.toInt8.toInt32), vI (1 : Int32)] []) _
    refine Rch.st (fun _ k => XS.goto X0.here hx rfl (pc0 := 28) (pc' := 7) rfl (hb hby dic_28) (by decide) (by decide) k) ?_
    refine Rch.st (fun _ k => XS.iload X0.here hx rfl (hb hby dic_7) rfl k) ?_
    show Rch p e below s₁ (mkF m 9 #[vR tb, vI ch, vI (0 : Int32), vI (15 : Int32), vI (ch.toInt8.toInt32), vI (1 : Int32)] [(.int (1 : Int32))]) _
    refine Rch.st (fun _ k => XS.iloadN X0.here hx rfl (hb hby dic_9) rfl k) ?_
    refine Rch.st (fun _ k => XS.icmpNo X0.here hx rfl (hb hby dic_10) rfl (by decide : if_icmp.holds .ge (1 : Int32) (15 : Int32) = false) k) ?_
    show Rch p e below s₁ (mkF m 13 #[vR tb, vI ch, vI (0 : Int32), vI (15 : Int32), vI (ch.toInt8.toInt32), vI (1 : Int32)] []) _
    refine Rch.st (fun _ k => XS.aloadN X0.here hx rfl (hb hby dic_13) rfl rfl k) ?_
    refine Rch.st (fun _ k => XS.iload X0.here hx rfl (hb hby dic_14) rfl k) ?_
    show Rch p e below s₁ (mkF m 16 #[vR tb, vI ch, vI (0 : Int32), vI (15 : Int32), vI (ch.toInt8.toInt32), vI (1 : Int32)] [(.int (1 : Int32)), (.ref tb)]) _
    refine Rch.st (balA X0 hx hZ e0 M ⟨by decide, by decide⟩ (v := (.int (35 : Int32))) rfl (g := (mkF m 16 #[vR tb, vI ch, vI (0 : Int32), vI (15 : Int32), vI (ch.toInt8.toInt32), vI (1 : Int32)] [(.int (1 : Int32)), (.ref tb)])) rfl rfl (hb hby dic_16)) ?_
    show Rch p e below s₁ (mkF m 17 #[vR tb, vI ch, vI (0 : Int32), vI (15 : Int32), vI (ch.toInt8.toInt32), vI (1 : Int32)] [(.int (35 : Int32))]) _
    refine Rch.st (fun _ k => XS.iload X0.here hx rfl (hb hby dic_17) rfl k) ?_
    show Rch p e below s₁ (mkF m 19 #[vR tb, vI ch, vI (0 : Int32), vI (15 : Int32), vI (ch.toInt8.toInt32), vI (1 : Int32)] [(.int (ch.toInt8.toInt32)), (.int (35 : Int32))]) _
    by_cases hj1 : (35 : Int32) = (ch.toInt8.toInt32)
    · skip
      refine Rch.st (fun _ k => XS.icmpNo X0.here hx rfl (hb hby dic_19) rfl (teq hj1).2 k) ?_
      refine Rch.st (fun _ k => XS.iload X0.here hx rfl (hb hby dic_22) rfl k) ?_
      show Rch p e below s₁ (mkF m 24 #[vR tb, vI ch, vI (0 : Int32), vI (15 : Int32), vI (ch.toInt8.toInt32), vI (1 : Int32)] [(.int (1 : Int32))]) _
      exact Rch.fin (Q := Q_idxc Z tb kb ch h0 n0) X0 (v := some (.int (1 : Int32))) (fun h => by rw [Bd.returns] at h; cases h) (BodyLoose.notSynchronized Bd) (fun fs hr => retI X0 hx Bd.returns (hb hby dic_24) hr) (by rw [e0]; exact ⟨(1 : Int32), rfl, N0, rfl, fun _ => by decide, fun q => absurd (b8_eq ch _ hc hc2 (by decide) hj1) q⟩) (by decide) (by decide)
    · skip
      refine Rch.st (fun _ k => XS.icmpYes X0.here hx rfl (pc0 := 19) (pc' := 25) rfl (hb hby dic_19) rfl (feq hj1).2 (by decide) (by decide) k) ?_
      refine Rch.st (fun _ k => XS.iinc X0.here hx rfl (hb hby dic_25) rfl (l' := #[vR tb, vI ch, vI (0 : Int32), vI (15 : Int32), vI (ch.toInt8.toInt32), vI (2 : Int32)]) rfl k) ?_
      show Rch p e below s₁ (mkF m 28 #[vR tb, vI ch, vI (0 : Int32), vI (15 : Int32), vI (ch.toInt8.toInt32), vI (2 : Int32)] []) _
      refine Rch.st (fun _ k => XS.goto X0.here hx rfl (pc0 := 28) (pc' := 7) rfl (hb hby dic_28) (by decide) (by decide) k) ?_
      refine Rch.st (fun _ k => XS.iload X0.here hx rfl (hb hby dic_7) rfl k) ?_
      show Rch p e below s₁ (mkF m 9 #[vR tb, vI ch, vI (0 : Int32), vI (15 : Int32), vI (ch.toInt8.toInt32), vI (2 : Int32)] [(.int (2 : Int32))]) _
      refine Rch.st (fun _ k => XS.iloadN X0.here hx rfl (hb hby dic_9) rfl k) ?_
      refine Rch.st (fun _ k => XS.icmpNo X0.here hx rfl (hb hby dic_10) rfl (by decide : if_icmp.holds .ge (2 : Int32) (15 : Int32) = false) k) ?_
      show Rch p e below s₁ (mkF m 13 #[vR tb, vI ch, vI (0 : Int32), vI (15 : Int32), vI (ch.toInt8.toInt32), vI (2 : Int32)] []) _
      refine Rch.st (fun _ k => XS.aloadN X0.here hx rfl (hb hby dic_13) rfl rfl k) ?_
      refine Rch.st (fun _ k => XS.iload X0.here hx rfl (hb hby dic_14) rfl k) ?_
      show Rch p e below s₁ (mkF m 16 #[vR tb, vI ch, vI (0 : Int32), vI (15 : Int32), vI (ch.toInt8.toInt32), vI (2 : Int32)] [(.int (2 : Int32)), (.ref tb)]) _
      refine Rch.st (balA X0 hx hZ e0 M ⟨by decide, by decide⟩ (v := (.int (36 : Int32))) rfl (g := (mkF m 16 #[vR tb, vI ch, vI (0 : Int32), vI (15 : Int32), vI (ch.toInt8.toInt32), vI (2 : Int32)] [(.int (2 : Int32)), (.ref tb)])) rfl rfl (hb hby dic_16)) ?_
      show Rch p e below s₁ (mkF m 17 #[vR tb, vI ch, vI (0 : Int32), vI (15 : Int32), vI (ch.toInt8.toInt32), vI (2 : Int32)] [(.int (36 : Int32))]) _
      refine Rch.st (fun _ k => XS.iload X0.here hx rfl (hb hby dic_17) rfl k) ?_
      show Rch p e below s₁ (mkF m 19 #[vR tb, vI ch, vI (0 : Int32), vI (15 : Int32), vI (ch.toInt8.toInt32), vI (2 : Int32)] [(.int (ch.toInt8.toInt32)), (.int (36 : Int32))]) _
      by_cases hj2 : (36 : Int32) = (ch.toInt8.toInt32)
      · skip
        refine Rch.st (fun _ k => XS.icmpNo X0.here hx rfl (hb hby dic_19) rfl (teq hj2).2 k) ?_
        refine Rch.st (fun _ k => XS.iload X0.here hx rfl (hb hby dic_22) rfl k) ?_
        show Rch p e below s₁ (mkF m 24 #[vR tb, vI ch, vI (0 : Int32), vI (15 : Int32), vI (ch.toInt8.toInt32), vI (2 : Int32)] [(.int (2 : Int32))]) _
        exact Rch.fin (Q := Q_idxc Z tb kb ch h0 n0) X0 (v := some (.int (2 : Int32))) (fun h => by rw [Bd.returns] at h; cases h) (BodyLoose.notSynchronized Bd) (fun fs hr => retI X0 hx Bd.returns (hb hby dic_24) hr) (by rw [e0]; exact ⟨(2 : Int32), rfl, N0, rfl, fun _ => by decide, fun q => absurd (b8_eq ch _ hc hc2 (by decide) hj2) q⟩) (by decide) (by decide)
      · skip
        refine Rch.st (fun _ k => XS.icmpYes X0.here hx rfl (pc0 := 19) (pc' := 25) rfl (hb hby dic_19) rfl (feq hj2).2 (by decide) (by decide) k) ?_
        refine Rch.st (fun _ k => XS.iinc X0.here hx rfl (hb hby dic_25) rfl (l' := #[vR tb, vI ch, vI (0 : Int32), vI (15 : Int32), vI (ch.toInt8.toInt32), vI (3 : Int32)]) rfl k) ?_
        show Rch p e below s₁ (mkF m 28 #[vR tb, vI ch, vI (0 : Int32), vI (15 : Int32), vI (ch.toInt8.toInt32), vI (3 : Int32)] []) _
        refine Rch.st (fun _ k => XS.goto X0.here hx rfl (pc0 := 28) (pc' := 7) rfl (hb hby dic_28) (by decide) (by decide) k) ?_
        refine Rch.st (fun _ k => XS.iload X0.here hx rfl (hb hby dic_7) rfl k) ?_
        show Rch p e below s₁ (mkF m 9 #[vR tb, vI ch, vI (0 : Int32), vI (15 : Int32), vI (ch.toInt8.toInt32), vI (3 : Int32)] [(.int (3 : Int32))]) _
        refine Rch.st (fun _ k => XS.iloadN X0.here hx rfl (hb hby dic_9) rfl k) ?_
        refine Rch.st (fun _ k => XS.icmpNo X0.here hx rfl (hb hby dic_10) rfl (by decide : if_icmp.holds .ge (3 : Int32) (15 : Int32) = false) k) ?_
        show Rch p e below s₁ (mkF m 13 #[vR tb, vI ch, vI (0 : Int32), vI (15 : Int32), vI (ch.toInt8.toInt32), vI (3 : Int32)] []) _
        refine Rch.st (fun _ k => XS.aloadN X0.here hx rfl (hb hby dic_13) rfl rfl k) ?_
        refine Rch.st (fun _ k => XS.iload X0.here hx rfl (hb hby dic_14) rfl k) ?_
        show Rch p e below s₁ (mkF m 16 #[vR tb, vI ch, vI (0 : Int32), vI (15 : Int32), vI (ch.toInt8.toInt32), vI (3 : Int32)] [(.int (3 : Int32)), (.ref tb)]) _
        refine Rch.st (balA X0 hx hZ e0 M ⟨by decide, by decide⟩ (v := (.int (37 : Int32))) rfl (g := (mkF m 16 #[vR tb, vI ch, vI (0 : Int32), vI (15 : Int32), vI (ch.toInt8.toInt32), vI (3 : Int32)] [(.int (3 : Int32)), (.ref tb)])) rfl rfl (hb hby dic_16)) ?_
        show Rch p e below s₁ (mkF m 17 #[vR tb, vI ch, vI (0 : Int32), vI (15 : Int32), vI (ch.toInt8.toInt32), vI (3 : Int32)] [(.int (37 : Int32))]) _
        refine Rch.st (fun _ k => XS.iload X0.here hx rfl (hb hby dic_17) rfl k) ?_
        show Rch p e below s₁ (mkF m 19 #[vR tb, vI ch, vI (0 : Int32), vI (15 : Int32), vI (ch.toInt8.toInt32), vI (3 : Int32)] [(.int (ch.toInt8.toInt32)), (.int (37 : Int32))]) _
        by_cases hj3 : (37 : Int32) = (ch.toInt8.toInt32)
        · skip
          refine Rch.st (fun _ k => XS.icmpNo X0.here hx rfl (hb hby dic_19) rfl (teq hj3).2 k) ?_
          refine Rch.st (fun _ k => XS.iload X0.here hx rfl (hb hby dic_22) rfl k) ?_
          show Rch p e below s₁ (mkF m 24 #[vR tb, vI ch, vI (0 : Int32), vI (15 : Int32), vI (ch.toInt8.toInt32), vI (3 : Int32)] [(.int (3 : Int32))]) _
          exact Rch.fin (Q := Q_idxc Z tb kb ch h0 n0) X0 (v := some (.int (3 : Int32))) (fun h => by rw [Bd.returns] at h; cases h) (BodyLoose.notSynchronized Bd) (fun fs hr => retI X0 hx Bd.returns (hb hby dic_24) hr) (by rw [e0]; exact ⟨(3 : Int32), rfl, N0, rfl, fun _ => by decide, fun q => absurd (b8_eq ch _ hc hc2 (by decide) hj3) q⟩) (by decide) (by decide)
        · skip
          refine Rch.st (fun _ k => XS.icmpYes X0.here hx rfl (pc0 := 19) (pc' := 25) rfl (hb hby dic_19) rfl (feq hj3).2 (by decide) (by decide) k) ?_
          refine Rch.st (fun _ k => XS.iinc X0.here hx rfl (hb hby dic_25) rfl (l' := #[vR tb, vI ch, vI (0 : Int32), vI (15 : Int32), vI (ch.toInt8.toInt32), vI (4 : Int32)]) rfl k) ?_
          show Rch p e below s₁ (mkF m 28 #[vR tb, vI ch, vI (0 : Int32), vI (15 : Int32), vI (ch.toInt8.toInt32), vI (4 : Int32)] []) _
          refine Rch.st (fun _ k => XS.goto X0.here hx rfl (pc0 := 28) (pc' := 7) rfl (hb hby dic_28) (by decide) (by decide) k) ?_
          refine Rch.st (fun _ k => XS.iload X0.here hx rfl (hb hby dic_7) rfl k) ?_
          show Rch p e below s₁ (mkF m 9 #[vR tb, vI ch, vI (0 : Int32), vI (15 : Int32), vI (ch.toInt8.toInt32), vI (4 : Int32)] [(.int (4 : Int32))]) _
          refine Rch.st (fun _ k => XS.iloadN X0.here hx rfl (hb hby dic_9) rfl k) ?_
          refine Rch.st (fun _ k => XS.icmpNo X0.here hx rfl (hb hby dic_10) rfl (by decide : if_icmp.holds .ge (4 : Int32) (15 : Int32) = false) k) ?_
          show Rch p e below s₁ (mkF m 13 #[vR tb, vI ch, vI (0 : Int32), vI (15 : Int32), vI (ch.toInt8.toInt32), vI (4 : Int32)] []) _
          refine Rch.st (fun _ k => XS.aloadN X0.here hx rfl (hb hby dic_13) rfl rfl k) ?_
          refine Rch.st (fun _ k => XS.iload X0.here hx rfl (hb hby dic_14) rfl k) ?_
          show Rch p e below s₁ (mkF m 16 #[vR tb, vI ch, vI (0 : Int32), vI (15 : Int32), vI (ch.toInt8.toInt32), vI (4 : Int32)] [(.int (4 : Int32)), (.ref tb)]) _
          refine Rch.st (balA X0 hx hZ e0 M ⟨by decide, by decide⟩ (v := (.int (38 : Int32))) rfl (g := (mkF m 16 #[vR tb, vI ch, vI (0 : Int32), vI (15 : Int32), vI (ch.toInt8.toInt32), vI (4 : Int32)] [(.int (4 : Int32)), (.ref tb)])) rfl rfl (hb hby dic_16)) ?_
          show Rch p e below s₁ (mkF m 17 #[vR tb, vI ch, vI (0 : Int32), vI (15 : Int32), vI (ch.toInt8.toInt32), vI (4 : Int32)] [(.int (38 : Int32))]) _
          refine Rch.st (fun _ k => XS.iload X0.here hx rfl (hb hby dic_17) rfl k) ?_
          show Rch p e below s₁ (mkF m 19 #[vR tb, vI ch, vI (0 : Int32), vI (15 : Int32), vI (ch.toInt8.toInt32), vI (4 : Int32)] [(.int (ch.toInt8.toInt32)), (.int (38 : Int32))]) _
          by_cases hj4 : (38 : Int32) = (ch.toInt8.toInt32)
          · skip
            refine Rch.st (fun _ k => XS.icmpNo X0.here hx rfl (hb hby dic_19) rfl (teq hj4).2 k) ?_
            refine Rch.st (fun _ k => XS.iload X0.here hx rfl (hb hby dic_22) rfl k) ?_
            show Rch p e below s₁ (mkF m 24 #[vR tb, vI ch, vI (0 : Int32), vI (15 : Int32), vI (ch.toInt8.toInt32), vI (4 : Int32)] [(.int (4 : Int32))]) _
            exact Rch.fin (Q := Q_idxc Z tb kb ch h0 n0) X0 (v := some (.int (4 : Int32))) (fun h => by rw [Bd.returns] at h; cases h) (BodyLoose.notSynchronized Bd) (fun fs hr => retI X0 hx Bd.returns (hb hby dic_24) hr) (by rw [e0]; exact ⟨(4 : Int32), rfl, N0, rfl, fun _ => by decide, fun q => absurd (b8_eq ch _ hc hc2 (by decide) hj4) q⟩) (by decide) (by decide)
          · skip
            refine Rch.st (fun _ k => XS.icmpYes X0.here hx rfl (pc0 := 19) (pc' := 25) rfl (hb hby dic_19) rfl (feq hj4).2 (by decide) (by decide) k) ?_
            refine Rch.st (fun _ k => XS.iinc X0.here hx rfl (hb hby dic_25) rfl (l' := #[vR tb, vI ch, vI (0 : Int32), vI (15 : Int32), vI (ch.toInt8.toInt32), vI (5 : Int32)]) rfl k) ?_
            show Rch p e below s₁ (mkF m 28 #[vR tb, vI ch, vI (0 : Int32), vI (15 : Int32), vI (ch.toInt8.toInt32), vI (5 : Int32)] []) _
            refine Rch.st (fun _ k => XS.goto X0.here hx rfl (pc0 := 28) (pc' := 7) rfl (hb hby dic_28) (by decide) (by decide) k) ?_
            refine Rch.st (fun _ k => XS.iload X0.here hx rfl (hb hby dic_7) rfl k) ?_
            show Rch p e below s₁ (mkF m 9 #[vR tb, vI ch, vI (0 : Int32), vI (15 : Int32), vI (ch.toInt8.toInt32), vI (5 : Int32)] [(.int (5 : Int32))]) _
            refine Rch.st (fun _ k => XS.iloadN X0.here hx rfl (hb hby dic_9) rfl k) ?_
            refine Rch.st (fun _ k => XS.icmpNo X0.here hx rfl (hb hby dic_10) rfl (by decide : if_icmp.holds .ge (5 : Int32) (15 : Int32) = false) k) ?_
            show Rch p e below s₁ (mkF m 13 #[vR tb, vI ch, vI (0 : Int32), vI (15 : Int32), vI (ch.toInt8.toInt32), vI (5 : Int32)] []) _
            refine Rch.st (fun _ k => XS.aloadN X0.here hx rfl (hb hby dic_13) rfl rfl k) ?_
            refine Rch.st (fun _ k => XS.iload X0.here hx rfl (hb hby dic_14) rfl k) ?_
            show Rch p e below s₁ (mkF m 16 #[vR tb, vI ch, vI (0 : Int32), vI (15 : Int32), vI (ch.toInt8.toInt32), vI (5 : Int32)] [(.int (5 : Int32)), (.ref tb)]) _
            refine Rch.st (balA X0 hx hZ e0 M ⟨by decide, by decide⟩ (v := (.int (39 : Int32))) rfl (g := (mkF m 16 #[vR tb, vI ch, vI (0 : Int32), vI (15 : Int32), vI (ch.toInt8.toInt32), vI (5 : Int32)] [(.int (5 : Int32)), (.ref tb)])) rfl rfl (hb hby dic_16)) ?_
            show Rch p e below s₁ (mkF m 17 #[vR tb, vI ch, vI (0 : Int32), vI (15 : Int32), vI (ch.toInt8.toInt32), vI (5 : Int32)] [(.int (39 : Int32))]) _
            refine Rch.st (fun _ k => XS.iload X0.here hx rfl (hb hby dic_17) rfl k) ?_
            show Rch p e below s₁ (mkF m 19 #[vR tb, vI ch, vI (0 : Int32), vI (15 : Int32), vI (ch.toInt8.toInt32), vI (5 : Int32)] [(.int (ch.toInt8.toInt32)), (.int (39 : Int32))]) _
            by_cases hj5 : (39 : Int32) = (ch.toInt8.toInt32)
            · skip
              refine Rch.st (fun _ k => XS.icmpNo X0.here hx rfl (hb hby dic_19) rfl (teq hj5).2 k) ?_
              refine Rch.st (fun _ k => XS.iload X0.here hx rfl (hb hby dic_22) rfl k) ?_
              show Rch p e below s₁ (mkF m 24 #[vR tb, vI ch, vI (0 : Int32), vI (15 : Int32), vI (ch.toInt8.toInt32), vI (5 : Int32)] [(.int (5 : Int32))]) _
              exact Rch.fin (Q := Q_idxc Z tb kb ch h0 n0) X0 (v := some (.int (5 : Int32))) (fun h => by rw [Bd.returns] at h; cases h) (BodyLoose.notSynchronized Bd) (fun fs hr => retI X0 hx Bd.returns (hb hby dic_24) hr) (by rw [e0]; exact ⟨(5 : Int32), rfl, N0, rfl, fun _ => by decide, fun q => absurd (b8_eq ch _ hc hc2 (by decide) hj5) q⟩) (by decide) (by decide)
            · skip
              refine Rch.st (fun _ k => XS.icmpYes X0.here hx rfl (pc0 := 19) (pc' := 25) rfl (hb hby dic_19) rfl (feq hj5).2 (by decide) (by decide) k) ?_
              refine Rch.st (fun _ k => XS.iinc X0.here hx rfl (hb hby dic_25) rfl (l' := #[vR tb, vI ch, vI (0 : Int32), vI (15 : Int32), vI (ch.toInt8.toInt32), vI (6 : Int32)]) rfl k) ?_
              show Rch p e below s₁ (mkF m 28 #[vR tb, vI ch, vI (0 : Int32), vI (15 : Int32), vI (ch.toInt8.toInt32), vI (6 : Int32)] []) _
              refine Rch.st (fun _ k => XS.goto X0.here hx rfl (pc0 := 28) (pc' := 7) rfl (hb hby dic_28) (by decide) (by decide) k) ?_
              refine Rch.st (fun _ k => XS.iload X0.here hx rfl (hb hby dic_7) rfl k) ?_
              show Rch p e below s₁ (mkF m 9 #[vR tb, vI ch, vI (0 : Int32), vI (15 : Int32), vI (ch.toInt8.toInt32), vI (6 : Int32)] [(.int (6 : Int32))]) _
              refine Rch.st (fun _ k => XS.iloadN X0.here hx rfl (hb hby dic_9) rfl k) ?_
              refine Rch.st (fun _ k => XS.icmpNo X0.here hx rfl (hb hby dic_10) rfl (by decide : if_icmp.holds .ge (6 : Int32) (15 : Int32) = false) k) ?_
              show Rch p e below s₁ (mkF m 13 #[vR tb, vI ch, vI (0 : Int32), vI (15 : Int32), vI (ch.toInt8.toInt32), vI (6 : Int32)] []) _
              refine Rch.st (fun _ k => XS.aloadN X0.here hx rfl (hb hby dic_13) rfl rfl k) ?_
              refine Rch.st (fun _ k => XS.iload X0.here hx rfl (hb hby dic_14) rfl k) ?_
              show Rch p e below s₁ (mkF m 16 #[vR tb, vI ch, vI (0 : Int32), vI (15 : Int32), vI (ch.toInt8.toInt32), vI (6 : Int32)] [(.int (6 : Int32)), (.ref tb)]) _
              refine Rch.st (balA X0 hx hZ e0 M ⟨by decide, by decide⟩ (v := (.int (42 : Int32))) rfl (g := (mkF m 16 #[vR tb, vI ch, vI (0 : Int32), vI (15 : Int32), vI (ch.toInt8.toInt32), vI (6 : Int32)] [(.int (6 : Int32)), (.ref tb)])) rfl rfl (hb hby dic_16)) ?_
              show Rch p e below s₁ (mkF m 17 #[vR tb, vI ch, vI (0 : Int32), vI (15 : Int32), vI (ch.toInt8.toInt32), vI (6 : Int32)] [(.int (42 : Int32))]) _
              refine Rch.st (fun _ k => XS.iload X0.here hx rfl (hb hby dic_17) rfl k) ?_
              show Rch p e below s₁ (mkF m 19 #[vR tb, vI ch, vI (0 : Int32), vI (15 : Int32), vI (ch.toInt8.toInt32), vI (6 : Int32)] [(.int (ch.toInt8.toInt32)), (.int (42 : Int32))]) _
              by_cases hj6 : (42 : Int32) = (ch.toInt8.toInt32)
              · skip
                refine Rch.st (fun _ k => XS.icmpNo X0.here hx rfl (hb hby dic_19) rfl (teq hj6).2 k) ?_
                refine Rch.st (fun _ k => XS.iload X0.here hx rfl (hb hby dic_22) rfl k) ?_
                show Rch p e below s₁ (mkF m 24 #[vR tb, vI ch, vI (0 : Int32), vI (15 : Int32), vI (ch.toInt8.toInt32), vI (6 : Int32)] [(.int (6 : Int32))]) _
                exact Rch.fin (Q := Q_idxc Z tb kb ch h0 n0) X0 (v := some (.int (6 : Int32))) (fun h => by rw [Bd.returns] at h; cases h) (BodyLoose.notSynchronized Bd) (fun fs hr => retI X0 hx Bd.returns (hb hby dic_24) hr) (by rw [e0]; exact ⟨(6 : Int32), rfl, N0, rfl, fun _ => by decide, fun q => absurd (b8_eq ch _ hc hc2 (by decide) hj6) q⟩) (by decide) (by decide)
              · skip
                refine Rch.st (fun _ k => XS.icmpYes X0.here hx rfl (pc0 := 19) (pc' := 25) rfl (hb hby dic_19) rfl (feq hj6).2 (by decide) (by decide) k) ?_
                refine Rch.st (fun _ k => XS.iinc X0.here hx rfl (hb hby dic_25) rfl (l' := #[vR tb, vI ch, vI (0 : Int32), vI (15 : Int32), vI (ch.toInt8.toInt32), vI (7 : Int32)]) rfl k) ?_
                show Rch p e below s₁ (mkF m 28 #[vR tb, vI ch, vI (0 : Int32), vI (15 : Int32), vI (ch.toInt8.toInt32), vI (7 : Int32)] []) _
                refine Rch.st (fun _ k => XS.goto X0.here hx rfl (pc0 := 28) (pc' := 7) rfl (hb hby dic_28) (by decide) (by decide) k) ?_
                refine Rch.st (fun _ k => XS.iload X0.here hx rfl (hb hby dic_7) rfl k) ?_
                show Rch p e below s₁ (mkF m 9 #[vR tb, vI ch, vI (0 : Int32), vI (15 : Int32), vI (ch.toInt8.toInt32), vI (7 : Int32)] [(.int (7 : Int32))]) _
                refine Rch.st (fun _ k => XS.iloadN X0.here hx rfl (hb hby dic_9) rfl k) ?_
                refine Rch.st (fun _ k => XS.icmpNo X0.here hx rfl (hb hby dic_10) rfl (by decide : if_icmp.holds .ge (7 : Int32) (15 : Int32) = false) k) ?_
                show Rch p e below s₁ (mkF m 13 #[vR tb, vI ch, vI (0 : Int32), vI (15 : Int32), vI (ch.toInt8.toInt32), vI (7 : Int32)] []) _
                refine Rch.st (fun _ k => XS.aloadN X0.here hx rfl (hb hby dic_13) rfl rfl k) ?_
                refine Rch.st (fun _ k => XS.iload X0.here hx rfl (hb hby dic_14) rfl k) ?_
                show Rch p e below s₁ (mkF m 16 #[vR tb, vI ch, vI (0 : Int32), vI (15 : Int32), vI (ch.toInt8.toInt32), vI (7 : Int32)] [(.int (7 : Int32)), (.ref tb)]) _
                refine Rch.st (balA X0 hx hZ e0 M ⟨by decide, by decide⟩ (v := (.int (43 : Int32))) rfl (g := (mkF m 16 #[vR tb, vI ch, vI (0 : Int32), vI (15 : Int32), vI (ch.toInt8.toInt32), vI (7 : Int32)] [(.int (7 : Int32)), (.ref tb)])) rfl rfl (hb hby dic_16)) ?_
                show Rch p e below s₁ (mkF m 17 #[vR tb, vI ch, vI (0 : Int32), vI (15 : Int32), vI (ch.toInt8.toInt32), vI (7 : Int32)] [(.int (43 : Int32))]) _
                refine Rch.st (fun _ k => XS.iload X0.here hx rfl (hb hby dic_17) rfl k) ?_
                show Rch p e below s₁ (mkF m 19 #[vR tb, vI ch, vI (0 : Int32), vI (15 : Int32), vI (ch.toInt8.toInt32), vI (7 : Int32)] [(.int (ch.toInt8.toInt32)), (.int (43 : Int32))]) _
                by_cases hj7 : (43 : Int32) = (ch.toInt8.toInt32)
                · skip
                  refine Rch.st (fun _ k => XS.icmpNo X0.here hx rfl (hb hby dic_19) rfl (teq hj7).2 k) ?_
                  refine Rch.st (fun _ k => XS.iload X0.here hx rfl (hb hby dic_22) rfl k) ?_
                  show Rch p e below s₁ (mkF m 24 #[vR tb, vI ch, vI (0 : Int32), vI (15 : Int32), vI (ch.toInt8.toInt32), vI (7 : Int32)] [(.int (7 : Int32))]) _
                  exact Rch.fin (Q := Q_idxc Z tb kb ch h0 n0) X0 (v := some (.int (7 : Int32))) (fun h => by rw [Bd.returns] at h; cases h) (BodyLoose.notSynchronized Bd) (fun fs hr => retI X0 hx Bd.returns (hb hby dic_24) hr) (by rw [e0]; exact ⟨(7 : Int32), rfl, N0, rfl, fun _ => by decide, fun q => absurd (b8_eq ch _ hc hc2 (by decide) hj7) q⟩) (by decide) (by decide)
                · skip
                  refine Rch.st (fun _ k => XS.icmpYes X0.here hx rfl (pc0 := 19) (pc' := 25) rfl (hb hby dic_19) rfl (feq hj7).2 (by decide) (by decide) k) ?_
                  refine Rch.st (fun _ k => XS.iinc X0.here hx rfl (hb hby dic_25) rfl (l' := #[vR tb, vI ch, vI (0 : Int32), vI (15 : Int32), vI (ch.toInt8.toInt32), vI (8 : Int32)]) rfl k) ?_
                  show Rch p e below s₁ (mkF m 28 #[vR tb, vI ch, vI (0 : Int32), vI (15 : Int32), vI (ch.toInt8.toInt32), vI (8 : Int32)] []) _
                  refine Rch.st (fun _ k => XS.goto X0.here hx rfl (pc0 := 28) (pc' := 7) rfl (hb hby dic_28) (by decide) (by decide) k) ?_
                  refine Rch.st (fun _ k => XS.iload X0.here hx rfl (hb hby dic_7) rfl k) ?_
                  show Rch p e below s₁ (mkF m 9 #[vR tb, vI ch, vI (0 : Int32), vI (15 : Int32), vI (ch.toInt8.toInt32), vI (8 : Int32)] [(.int (8 : Int32))]) _
                  refine Rch.st (fun _ k => XS.iloadN X0.here hx rfl (hb hby dic_9) rfl k) ?_
                  refine Rch.st (fun _ k => XS.icmpNo X0.here hx rfl (hb hby dic_10) rfl (by decide : if_icmp.holds .ge (8 : Int32) (15 : Int32) = false) k) ?_
                  show Rch p e below s₁ (mkF m 13 #[vR tb, vI ch, vI (0 : Int32), vI (15 : Int32), vI (ch.toInt8.toInt32), vI (8 : Int32)] []) _
                  refine Rch.st (fun _ k => XS.aloadN X0.here hx rfl (hb hby dic_13) rfl rfl k) ?_
                  refine Rch.st (fun _ k => XS.iload X0.here hx rfl (hb hby dic_14) rfl k) ?_
                  show Rch p e below s₁ (mkF m 16 #[vR tb, vI ch, vI (0 : Int32), vI (15 : Int32), vI (ch.toInt8.toInt32), vI (8 : Int32)] [(.int (8 : Int32)), (.ref tb)]) _
                  refine Rch.st (balA X0 hx hZ e0 M ⟨by decide, by decide⟩ (v := (.int (45 : Int32))) rfl (g := (mkF m 16 #[vR tb, vI ch, vI (0 : Int32), vI (15 : Int32), vI (ch.toInt8.toInt32), vI (8 : Int32)] [(.int (8 : Int32)), (.ref tb)])) rfl rfl (hb hby dic_16)) ?_
                  show Rch p e below s₁ (mkF m 17 #[vR tb, vI ch, vI (0 : Int32), vI (15 : Int32), vI (ch.toInt8.toInt32), vI (8 : Int32)] [(.int (45 : Int32))]) _
                  refine Rch.st (fun _ k => XS.iload X0.here hx rfl (hb hby dic_17) rfl k) ?_
                  show Rch p e below s₁ (mkF m 19 #[vR tb, vI ch, vI (0 : Int32), vI (15 : Int32), vI (ch.toInt8.toInt32), vI (8 : Int32)] [(.int (ch.toInt8.toInt32)), (.int (45 : Int32))]) _
                  by_cases hj8 : (45 : Int32) = (ch.toInt8.toInt32)
                  · skip
                    refine Rch.st (fun _ k => XS.icmpNo X0.here hx rfl (hb hby dic_19) rfl (teq hj8).2 k) ?_
                    refine Rch.st (fun _ k => XS.iload X0.here hx rfl (hb hby dic_22) rfl k) ?_
                    show Rch p e below s₁ (mkF m 24 #[vR tb, vI ch, vI (0 : Int32), vI (15 : Int32), vI (ch.toInt8.toInt32), vI (8 : Int32)] [(.int (8 : Int32))]) _
                    exact Rch.fin (Q := Q_idxc Z tb kb ch h0 n0) X0 (v := some (.int (8 : Int32))) (fun h => by rw [Bd.returns] at h; cases h) (BodyLoose.notSynchronized Bd) (fun fs hr => retI X0 hx Bd.returns (hb hby dic_24) hr) (by rw [e0]; exact ⟨(8 : Int32), rfl, N0, rfl, fun _ => by decide, fun q => absurd (b8_eq ch _ hc hc2 (by decide) hj8) q⟩) (by decide) (by decide)
                  · skip
                    refine Rch.st (fun _ k => XS.icmpYes X0.here hx rfl (pc0 := 19) (pc' := 25) rfl (hb hby dic_19) rfl (feq hj8).2 (by decide) (by decide) k) ?_
                    refine Rch.st (fun _ k => XS.iinc X0.here hx rfl (hb hby dic_25) rfl (l' := #[vR tb, vI ch, vI (0 : Int32), vI (15 : Int32), vI (ch.toInt8.toInt32), vI (9 : Int32)]) rfl k) ?_
                    show Rch p e below s₁ (mkF m 28 #[vR tb, vI ch, vI (0 : Int32), vI (15 : Int32), vI (ch.toInt8.toInt32), vI (9 : Int32)] []) _
                    refine Rch.st (fun _ k => XS.goto X0.here hx rfl (pc0 := 28) (pc' := 7) rfl (hb hby dic_28) (by decide) (by decide) k) ?_
                    refine Rch.st (fun _ k => XS.iload X0.here hx rfl (hb hby dic_7) rfl k) ?_
                    show Rch p e below s₁ (mkF m 9 #[vR tb, vI ch, vI (0 : Int32), vI (15 : Int32), vI (ch.toInt8.toInt32), vI (9 : Int32)] [(.int (9 : Int32))]) _
                    refine Rch.st (fun _ k => XS.iloadN X0.here hx rfl (hb hby dic_9) rfl k) ?_
                    refine Rch.st (fun _ k => XS.icmpNo X0.here hx rfl (hb hby dic_10) rfl (by decide : if_icmp.holds .ge (9 : Int32) (15 : Int32) = false) k) ?_
                    show Rch p e below s₁ (mkF m 13 #[vR tb, vI ch, vI (0 : Int32), vI (15 : Int32), vI (ch.toInt8.toInt32), vI (9 : Int32)] []) _
                    refine Rch.st (fun _ k => XS.aloadN X0.here hx rfl (hb hby dic_13) rfl rfl k) ?_
                    refine Rch.st (fun _ k => XS.iload X0.here hx rfl (hb hby dic_14) rfl k) ?_
                    show Rch p e below s₁ (mkF m 16 #[vR tb, vI ch, vI (0 : Int32), vI (15 : Int32), vI (ch.toInt8.toInt32), vI (9 : Int32)] [(.int (9 : Int32)), (.ref tb)]) _
                    refine Rch.st (balA X0 hx hZ e0 M ⟨by decide, by decide⟩ (v := (.int (46 : Int32))) rfl (g := (mkF m 16 #[vR tb, vI ch, vI (0 : Int32), vI (15 : Int32), vI (ch.toInt8.toInt32), vI (9 : Int32)] [(.int (9 : Int32)), (.ref tb)])) rfl rfl (hb hby dic_16)) ?_
                    show Rch p e below s₁ (mkF m 17 #[vR tb, vI ch, vI (0 : Int32), vI (15 : Int32), vI (ch.toInt8.toInt32), vI (9 : Int32)] [(.int (46 : Int32))]) _
                    refine Rch.st (fun _ k => XS.iload X0.here hx rfl (hb hby dic_17) rfl k) ?_
                    show Rch p e below s₁ (mkF m 19 #[vR tb, vI ch, vI (0 : Int32), vI (15 : Int32), vI (ch.toInt8.toInt32), vI (9 : Int32)] [(.int (ch.toInt8.toInt32)), (.int (46 : Int32))]) _
                    by_cases hj9 : (46 : Int32) = (ch.toInt8.toInt32)
                    · skip
                      refine Rch.st (fun _ k => XS.icmpNo X0.here hx rfl (hb hby dic_19) rfl (teq hj9).2 k) ?_
                      refine Rch.st (fun _ k => XS.iload X0.here hx rfl (hb hby dic_22) rfl k) ?_
                      show Rch p e below s₁ (mkF m 24 #[vR tb, vI ch, vI (0 : Int32), vI (15 : Int32), vI (ch.toInt8.toInt32), vI (9 : Int32)] [(.int (9 : Int32))]) _
                      exact Rch.fin (Q := Q_idxc Z tb kb ch h0 n0) X0 (v := some (.int (9 : Int32))) (fun h => by rw [Bd.returns] at h; cases h) (BodyLoose.notSynchronized Bd) (fun fs hr => retI X0 hx Bd.returns (hb hby dic_24) hr) (by rw [e0]; exact ⟨(9 : Int32), rfl, N0, rfl, fun _ => by decide, fun q => absurd (b8_eq ch _ hc hc2 (by decide) hj9) q⟩) (by decide) (by decide)
                    · skip
                      refine Rch.st (fun _ k => XS.icmpYes X0.here hx rfl (pc0 := 19) (pc' := 25) rfl (hb hby dic_19) rfl (feq hj9).2 (by decide) (by decide) k) ?_
                      refine Rch.st (fun _ k => XS.iinc X0.here hx rfl (hb hby dic_25) rfl (l' := #[vR tb, vI ch, vI (0 : Int32), vI (15 : Int32), vI (ch.toInt8.toInt32), vI (10 : Int32)]) rfl k) ?_
                      show Rch p e below s₁ (mkF m 28 #[vR tb, vI ch, vI (0 : Int32), vI (15 : Int32), vI (ch.toInt8.toInt32), vI (10 : Int32)] []) _
                      refine Rch.st (fun _ k => XS.goto X0.here hx rfl (pc0 := 28) (pc' := 7) rfl (hb hby dic_28) (by decide) (by decide) k) ?_
                      refine Rch.st (fun _ k => XS.iload X0.here hx rfl (hb hby dic_7) rfl k) ?_
                      show Rch p e below s₁ (mkF m 9 #[vR tb, vI ch, vI (0 : Int32), vI (15 : Int32), vI (ch.toInt8.toInt32), vI (10 : Int32)] [(.int (10 : Int32))]) _
                      refine Rch.st (fun _ k => XS.iloadN X0.here hx rfl (hb hby dic_9) rfl k) ?_
                      refine Rch.st (fun _ k => XS.icmpNo X0.here hx rfl (hb hby dic_10) rfl (by decide : if_icmp.holds .ge (10 : Int32) (15 : Int32) = false) k) ?_
                      show Rch p e below s₁ (mkF m 13 #[vR tb, vI ch, vI (0 : Int32), vI (15 : Int32), vI (ch.toInt8.toInt32), vI (10 : Int32)] []) _
                      refine Rch.st (fun _ k => XS.aloadN X0.here hx rfl (hb hby dic_13) rfl rfl k) ?_
                      refine Rch.st (fun _ k => XS.iload X0.here hx rfl (hb hby dic_14) rfl k) ?_
                      show Rch p e below s₁ (mkF m 16 #[vR tb, vI ch, vI (0 : Int32), vI (15 : Int32), vI (ch.toInt8.toInt32), vI (10 : Int32)] [(.int (10 : Int32)), (.ref tb)]) _
                      refine Rch.st (balA X0 hx hZ e0 M ⟨by decide, by decide⟩ (v := (.int (94 : Int32))) rfl (g := (mkF m 16 #[vR tb, vI ch, vI (0 : Int32), vI (15 : Int32), vI (ch.toInt8.toInt32), vI (10 : Int32)] [(.int (10 : Int32)), (.ref tb)])) rfl rfl (hb hby dic_16)) ?_
                      show Rch p e below s₁ (mkF m 17 #[vR tb, vI ch, vI (0 : Int32), vI (15 : Int32), vI (ch.toInt8.toInt32), vI (10 : Int32)] [(.int (94 : Int32))]) _
                      refine Rch.st (fun _ k => XS.iload X0.here hx rfl (hb hby dic_17) rfl k) ?_
                      show Rch p e below s₁ (mkF m 19 #[vR tb, vI ch, vI (0 : Int32), vI (15 : Int32), vI (ch.toInt8.toInt32), vI (10 : Int32)] [(.int (ch.toInt8.toInt32)), (.int (94 : Int32))]) _
                      by_cases hj10 : (94 : Int32) = (ch.toInt8.toInt32)
                      · skip
                        refine Rch.st (fun _ k => XS.icmpNo X0.here hx rfl (hb hby dic_19) rfl (teq hj10).2 k) ?_
                        refine Rch.st (fun _ k => XS.iload X0.here hx rfl (hb hby dic_22) rfl k) ?_
                        show Rch p e below s₁ (mkF m 24 #[vR tb, vI ch, vI (0 : Int32), vI (15 : Int32), vI (ch.toInt8.toInt32), vI (10 : Int32)] [(.int (10 : Int32))]) _
                        exact Rch.fin (Q := Q_idxc Z tb kb ch h0 n0) X0 (v := some (.int (10 : Int32))) (fun h => by rw [Bd.returns] at h; cases h) (BodyLoose.notSynchronized Bd) (fun fs hr => retI X0 hx Bd.returns (hb hby dic_24) hr) (by rw [e0]; exact ⟨(10 : Int32), rfl, N0, rfl, fun _ => by decide, fun q => absurd (b8_eq ch _ hc hc2 (by decide) hj10) q⟩) (by decide) (by decide)
                      · skip
                        refine Rch.st (fun _ k => XS.icmpYes X0.here hx rfl (pc0 := 19) (pc' := 25) rfl (hb hby dic_19) rfl (feq hj10).2 (by decide) (by decide) k) ?_
                        refine Rch.st (fun _ k => XS.iinc X0.here hx rfl (hb hby dic_25) rfl (l' := #[vR tb, vI ch, vI (0 : Int32), vI (15 : Int32), vI (ch.toInt8.toInt32), vI (11 : Int32)]) rfl k) ?_
                        show Rch p e below s₁ (mkF m 28 #[vR tb, vI ch, vI (0 : Int32), vI (15 : Int32), vI (ch.toInt8.toInt32), vI (11 : Int32)] []) _
                        refine Rch.st (fun _ k => XS.goto X0.here hx rfl (pc0 := 28) (pc' := 7) rfl (hb hby dic_28) (by decide) (by decide) k) ?_
                        refine Rch.st (fun _ k => XS.iload X0.here hx rfl (hb hby dic_7) rfl k) ?_
                        show Rch p e below s₁ (mkF m 9 #[vR tb, vI ch, vI (0 : Int32), vI (15 : Int32), vI (ch.toInt8.toInt32), vI (11 : Int32)] [(.int (11 : Int32))]) _
                        refine Rch.st (fun _ k => XS.iloadN X0.here hx rfl (hb hby dic_9) rfl k) ?_
                        refine Rch.st (fun _ k => XS.icmpNo X0.here hx rfl (hb hby dic_10) rfl (by decide : if_icmp.holds .ge (11 : Int32) (15 : Int32) = false) k) ?_
                        show Rch p e below s₁ (mkF m 13 #[vR tb, vI ch, vI (0 : Int32), vI (15 : Int32), vI (ch.toInt8.toInt32), vI (11 : Int32)] []) _
                        refine Rch.st (fun _ k => XS.aloadN X0.here hx rfl (hb hby dic_13) rfl rfl k) ?_
                        refine Rch.st (fun _ k => XS.iload X0.here hx rfl (hb hby dic_14) rfl k) ?_
                        show Rch p e below s₁ (mkF m 16 #[vR tb, vI ch, vI (0 : Int32), vI (15 : Int32), vI (ch.toInt8.toInt32), vI (11 : Int32)] [(.int (11 : Int32)), (.ref tb)]) _
                        refine Rch.st (balA X0 hx hZ e0 M ⟨by decide, by decide⟩ (v := (.int (95 : Int32))) rfl (g := (mkF m 16 #[vR tb, vI ch, vI (0 : Int32), vI (15 : Int32), vI (ch.toInt8.toInt32), vI (11 : Int32)] [(.int (11 : Int32)), (.ref tb)])) rfl rfl (hb hby dic_16)) ?_
                        show Rch p e below s₁ (mkF m 17 #[vR tb, vI ch, vI (0 : Int32), vI (15 : Int32), vI (ch.toInt8.toInt32), vI (11 : Int32)] [(.int (95 : Int32))]) _
                        refine Rch.st (fun _ k => XS.iload X0.here hx rfl (hb hby dic_17) rfl k) ?_
                        show Rch p e below s₁ (mkF m 19 #[vR tb, vI ch, vI (0 : Int32), vI (15 : Int32), vI (ch.toInt8.toInt32), vI (11 : Int32)] [(.int (ch.toInt8.toInt32)), (.int (95 : Int32))]) _
                        by_cases hj11 : (95 : Int32) = (ch.toInt8.toInt32)
                        · skip
                          refine Rch.st (fun _ k => XS.icmpNo X0.here hx rfl (hb hby dic_19) rfl (teq hj11).2 k) ?_
                          refine Rch.st (fun _ k => XS.iload X0.here hx rfl (hb hby dic_22) rfl k) ?_
                          show Rch p e below s₁ (mkF m 24 #[vR tb, vI ch, vI (0 : Int32), vI (15 : Int32), vI (ch.toInt8.toInt32), vI (11 : Int32)] [(.int (11 : Int32))]) _
                          exact Rch.fin (Q := Q_idxc Z tb kb ch h0 n0) X0 (v := some (.int (11 : Int32))) (fun h => by rw [Bd.returns] at h; cases h) (BodyLoose.notSynchronized Bd) (fun fs hr => retI X0 hx Bd.returns (hb hby dic_24) hr) (by rw [e0]; exact ⟨(11 : Int32), rfl, N0, rfl, fun _ => by decide, fun q => absurd (b8_eq ch _ hc hc2 (by decide) hj11) q⟩) (by decide) (by decide)
                        · skip
                          refine Rch.st (fun _ k => XS.icmpYes X0.here hx rfl (pc0 := 19) (pc' := 25) rfl (hb hby dic_19) rfl (feq hj11).2 (by decide) (by decide) k) ?_
                          refine Rch.st (fun _ k => XS.iinc X0.here hx rfl (hb hby dic_25) rfl (l' := #[vR tb, vI ch, vI (0 : Int32), vI (15 : Int32), vI (ch.toInt8.toInt32), vI (12 : Int32)]) rfl k) ?_
                          show Rch p e below s₁ (mkF m 28 #[vR tb, vI ch, vI (0 : Int32), vI (15 : Int32), vI (ch.toInt8.toInt32), vI (12 : Int32)] []) _
                          refine Rch.st (fun _ k => XS.goto X0.here hx rfl (pc0 := 28) (pc' := 7) rfl (hb hby dic_28) (by decide) (by decide) k) ?_
                          refine Rch.st (fun _ k => XS.iload X0.here hx rfl (hb hby dic_7) rfl k) ?_
                          show Rch p e below s₁ (mkF m 9 #[vR tb, vI ch, vI (0 : Int32), vI (15 : Int32), vI (ch.toInt8.toInt32), vI (12 : Int32)] [(.int (12 : Int32))]) _
                          refine Rch.st (fun _ k => XS.iloadN X0.here hx rfl (hb hby dic_9) rfl k) ?_
                          refine Rch.st (fun _ k => XS.icmpNo X0.here hx rfl (hb hby dic_10) rfl (by decide : if_icmp.holds .ge (12 : Int32) (15 : Int32) = false) k) ?_
                          show Rch p e below s₁ (mkF m 13 #[vR tb, vI ch, vI (0 : Int32), vI (15 : Int32), vI (ch.toInt8.toInt32), vI (12 : Int32)] []) _
                          refine Rch.st (fun _ k => XS.aloadN X0.here hx rfl (hb hby dic_13) rfl rfl k) ?_
                          refine Rch.st (fun _ k => XS.iload X0.here hx rfl (hb hby dic_14) rfl k) ?_
                          show Rch p e below s₁ (mkF m 16 #[vR tb, vI ch, vI (0 : Int32), vI (15 : Int32), vI (ch.toInt8.toInt32), vI (12 : Int32)] [(.int (12 : Int32)), (.ref tb)]) _
                          refine Rch.st (balA X0 hx hZ e0 M ⟨by decide, by decide⟩ (v := (.int (96 : Int32))) rfl (g := (mkF m 16 #[vR tb, vI ch, vI (0 : Int32), vI (15 : Int32), vI (ch.toInt8.toInt32), vI (12 : Int32)] [(.int (12 : Int32)), (.ref tb)])) rfl rfl (hb hby dic_16)) ?_
                          show Rch p e below s₁ (mkF m 17 #[vR tb, vI ch, vI (0 : Int32), vI (15 : Int32), vI (ch.toInt8.toInt32), vI (12 : Int32)] [(.int (96 : Int32))]) _
                          refine Rch.st (fun _ k => XS.iload X0.here hx rfl (hb hby dic_17) rfl k) ?_
                          show Rch p e below s₁ (mkF m 19 #[vR tb, vI ch, vI (0 : Int32), vI (15 : Int32), vI (ch.toInt8.toInt32), vI (12 : Int32)] [(.int (ch.toInt8.toInt32)), (.int (96 : Int32))]) _
                          by_cases hj12 : (96 : Int32) = (ch.toInt8.toInt32)
                          · skip
                            refine Rch.st (fun _ k => XS.icmpNo X0.here hx rfl (hb hby dic_19) rfl (teq hj12).2 k) ?_
                            refine Rch.st (fun _ k => XS.iload X0.here hx rfl (hb hby dic_22) rfl k) ?_
                            show Rch p e below s₁ (mkF m 24 #[vR tb, vI ch, vI (0 : Int32), vI (15 : Int32), vI (ch.toInt8.toInt32), vI (12 : Int32)] [(.int (12 : Int32))]) _
                            exact Rch.fin (Q := Q_idxc Z tb kb ch h0 n0) X0 (v := some (.int (12 : Int32))) (fun h => by rw [Bd.returns] at h; cases h) (BodyLoose.notSynchronized Bd) (fun fs hr => retI X0 hx Bd.returns (hb hby dic_24) hr) (by rw [e0]; exact ⟨(12 : Int32), rfl, N0, rfl, fun _ => by decide, fun q => absurd (b8_eq ch _ hc hc2 (by decide) hj12) q⟩) (by decide) (by decide)
                          · skip
                            refine Rch.st (fun _ k => XS.icmpYes X0.here hx rfl (pc0 := 19) (pc' := 25) rfl (hb hby dic_19) rfl (feq hj12).2 (by decide) (by decide) k) ?_
                            refine Rch.st (fun _ k => XS.iinc X0.here hx rfl (hb hby dic_25) rfl (l' := #[vR tb, vI ch, vI (0 : Int32), vI (15 : Int32), vI (ch.toInt8.toInt32), vI (13 : Int32)]) rfl k) ?_
                            show Rch p e below s₁ (mkF m 28 #[vR tb, vI ch, vI (0 : Int32), vI (15 : Int32), vI (ch.toInt8.toInt32), vI (13 : Int32)] []) _
                            refine Rch.st (fun _ k => XS.goto X0.here hx rfl (pc0 := 28) (pc' := 7) rfl (hb hby dic_28) (by decide) (by decide) k) ?_
                            refine Rch.st (fun _ k => XS.iload X0.here hx rfl (hb hby dic_7) rfl k) ?_
                            show Rch p e below s₁ (mkF m 9 #[vR tb, vI ch, vI (0 : Int32), vI (15 : Int32), vI (ch.toInt8.toInt32), vI (13 : Int32)] [(.int (13 : Int32))]) _
                            refine Rch.st (fun _ k => XS.iloadN X0.here hx rfl (hb hby dic_9) rfl k) ?_
                            refine Rch.st (fun _ k => XS.icmpNo X0.here hx rfl (hb hby dic_10) rfl (by decide : if_icmp.holds .ge (13 : Int32) (15 : Int32) = false) k) ?_
                            show Rch p e below s₁ (mkF m 13 #[vR tb, vI ch, vI (0 : Int32), vI (15 : Int32), vI (ch.toInt8.toInt32), vI (13 : Int32)] []) _
                            refine Rch.st (fun _ k => XS.aloadN X0.here hx rfl (hb hby dic_13) rfl rfl k) ?_
                            refine Rch.st (fun _ k => XS.iload X0.here hx rfl (hb hby dic_14) rfl k) ?_
                            show Rch p e below s₁ (mkF m 16 #[vR tb, vI ch, vI (0 : Int32), vI (15 : Int32), vI (ch.toInt8.toInt32), vI (13 : Int32)] [(.int (13 : Int32)), (.ref tb)]) _
                            refine Rch.st (balA X0 hx hZ e0 M ⟨by decide, by decide⟩ (v := (.int (124 : Int32))) rfl (g := (mkF m 16 #[vR tb, vI ch, vI (0 : Int32), vI (15 : Int32), vI (ch.toInt8.toInt32), vI (13 : Int32)] [(.int (13 : Int32)), (.ref tb)])) rfl rfl (hb hby dic_16)) ?_
                            show Rch p e below s₁ (mkF m 17 #[vR tb, vI ch, vI (0 : Int32), vI (15 : Int32), vI (ch.toInt8.toInt32), vI (13 : Int32)] [(.int (124 : Int32))]) _
                            refine Rch.st (fun _ k => XS.iload X0.here hx rfl (hb hby dic_17) rfl k) ?_
                            show Rch p e below s₁ (mkF m 19 #[vR tb, vI ch, vI (0 : Int32), vI (15 : Int32), vI (ch.toInt8.toInt32), vI (13 : Int32)] [(.int (ch.toInt8.toInt32)), (.int (124 : Int32))]) _
                            by_cases hj13 : (124 : Int32) = (ch.toInt8.toInt32)
                            · skip
                              refine Rch.st (fun _ k => XS.icmpNo X0.here hx rfl (hb hby dic_19) rfl (teq hj13).2 k) ?_
                              refine Rch.st (fun _ k => XS.iload X0.here hx rfl (hb hby dic_22) rfl k) ?_
                              show Rch p e below s₁ (mkF m 24 #[vR tb, vI ch, vI (0 : Int32), vI (15 : Int32), vI (ch.toInt8.toInt32), vI (13 : Int32)] [(.int (13 : Int32))]) _
                              exact Rch.fin (Q := Q_idxc Z tb kb ch h0 n0) X0 (v := some (.int (13 : Int32))) (fun h => by rw [Bd.returns] at h; cases h) (BodyLoose.notSynchronized Bd) (fun fs hr => retI X0 hx Bd.returns (hb hby dic_24) hr) (by rw [e0]; exact ⟨(13 : Int32), rfl, N0, rfl, fun _ => by decide, fun q => absurd (b8_eq ch _ hc hc2 (by decide) hj13) q⟩) (by decide) (by decide)
                            · skip
                              refine Rch.st (fun _ k => XS.icmpYes X0.here hx rfl (pc0 := 19) (pc' := 25) rfl (hb hby dic_19) rfl (feq hj13).2 (by decide) (by decide) k) ?_
                              refine Rch.st (fun _ k => XS.iinc X0.here hx rfl (hb hby dic_25) rfl (l' := #[vR tb, vI ch, vI (0 : Int32), vI (15 : Int32), vI (ch.toInt8.toInt32), vI (14 : Int32)]) rfl k) ?_
                              show Rch p e below s₁ (mkF m 28 #[vR tb, vI ch, vI (0 : Int32), vI (15 : Int32), vI (ch.toInt8.toInt32), vI (14 : Int32)] []) _
                              refine Rch.st (fun _ k => XS.goto X0.here hx rfl (pc0 := 28) (pc' := 7) rfl (hb hby dic_28) (by decide) (by decide) k) ?_
                              refine Rch.st (fun _ k => XS.iload X0.here hx rfl (hb hby dic_7) rfl k) ?_
                              show Rch p e below s₁ (mkF m 9 #[vR tb, vI ch, vI (0 : Int32), vI (15 : Int32), vI (ch.toInt8.toInt32), vI (14 : Int32)] [(.int (14 : Int32))]) _
                              refine Rch.st (fun _ k => XS.iloadN X0.here hx rfl (hb hby dic_9) rfl k) ?_
                              refine Rch.st (fun _ k => XS.icmpNo X0.here hx rfl (hb hby dic_10) rfl (by decide : if_icmp.holds .ge (14 : Int32) (15 : Int32) = false) k) ?_
                              show Rch p e below s₁ (mkF m 13 #[vR tb, vI ch, vI (0 : Int32), vI (15 : Int32), vI (ch.toInt8.toInt32), vI (14 : Int32)] []) _
                              refine Rch.st (fun _ k => XS.aloadN X0.here hx rfl (hb hby dic_13) rfl rfl k) ?_
                              refine Rch.st (fun _ k => XS.iload X0.here hx rfl (hb hby dic_14) rfl k) ?_
                              show Rch p e below s₁ (mkF m 16 #[vR tb, vI ch, vI (0 : Int32), vI (15 : Int32), vI (ch.toInt8.toInt32), vI (14 : Int32)] [(.int (14 : Int32)), (.ref tb)]) _
                              refine Rch.st (balA X0 hx hZ e0 M ⟨by decide, by decide⟩ (v := (.int (126 : Int32))) rfl (g := (mkF m 16 #[vR tb, vI ch, vI (0 : Int32), vI (15 : Int32), vI (ch.toInt8.toInt32), vI (14 : Int32)] [(.int (14 : Int32)), (.ref tb)])) rfl rfl (hb hby dic_16)) ?_
                              show Rch p e below s₁ (mkF m 17 #[vR tb, vI ch, vI (0 : Int32), vI (15 : Int32), vI (ch.toInt8.toInt32), vI (14 : Int32)] [(.int (126 : Int32))]) _
                              refine Rch.st (fun _ k => XS.iload X0.here hx rfl (hb hby dic_17) rfl k) ?_
                              show Rch p e below s₁ (mkF m 19 #[vR tb, vI ch, vI (0 : Int32), vI (15 : Int32), vI (ch.toInt8.toInt32), vI (14 : Int32)] [(.int (ch.toInt8.toInt32)), (.int (126 : Int32))]) _
                              by_cases hj14 : (126 : Int32) = (ch.toInt8.toInt32)
                              · skip
                                refine Rch.st (fun _ k => XS.icmpNo X0.here hx rfl (hb hby dic_19) rfl (teq hj14).2 k) ?_
                                refine Rch.st (fun _ k => XS.iload X0.here hx rfl (hb hby dic_22) rfl k) ?_
                                show Rch p e below s₁ (mkF m 24 #[vR tb, vI ch, vI (0 : Int32), vI (15 : Int32), vI (ch.toInt8.toInt32), vI (14 : Int32)] [(.int (14 : Int32))]) _
                                exact Rch.fin (Q := Q_idxc Z tb kb ch h0 n0) X0 (v := some (.int (14 : Int32))) (fun h => by rw [Bd.returns] at h; cases h) (BodyLoose.notSynchronized Bd) (fun fs hr => retI X0 hx Bd.returns (hb hby dic_24) hr) (by rw [e0]; exact ⟨(14 : Int32), rfl, N0, rfl, fun _ => by decide, fun q => absurd (b8_eq ch _ hc hc2 (by decide) hj14) q⟩) (by decide) (by decide)
                              · skip
                                refine Rch.st (fun _ k => XS.icmpYes X0.here hx rfl (pc0 := 19) (pc' := 25) rfl (hb hby dic_19) rfl (feq hj14).2 (by decide) (by decide) k) ?_
                                refine Rch.st (fun _ k => XS.iinc X0.here hx rfl (hb hby dic_25) rfl (l' := #[vR tb, vI ch, vI (0 : Int32), vI (15 : Int32), vI (ch.toInt8.toInt32), vI (15 : Int32)]) rfl k) ?_
                                show Rch p e below s₁ (mkF m 28 #[vR tb, vI ch, vI (0 : Int32), vI (15 : Int32), vI (ch.toInt8.toInt32), vI (15 : Int32)] []) _
                                refine Rch.st (fun _ k => XS.goto X0.here hx rfl (pc0 := 28) (pc' := 7) rfl (hb hby dic_28) (by decide) (by decide) k) ?_
                                refine Rch.st (fun _ k => XS.iload X0.here hx rfl (hb hby dic_7) rfl k) ?_
                                show Rch p e below s₁ (mkF m 9 #[vR tb, vI ch, vI (0 : Int32), vI (15 : Int32), vI (ch.toInt8.toInt32), vI (15 : Int32)] [(.int (15 : Int32))]) _
                                refine Rch.st (fun _ k => XS.iloadN X0.here hx rfl (hb hby dic_9) rfl k) ?_
                                refine Rch.st (fun _ k => XS.icmpYes X0.here hx rfl (pc0 := 10) (pc' := 31) rfl (hb hby dic_10) rfl (by decide : if_icmp.holds .ge (15 : Int32) (15 : Int32) = true) (by decide) (by decide) k) ?_
                                show Rch p e below s₁ (mkF m 31 #[vR tb, vI ch, vI (0 : Int32), vI (15 : Int32), vI (ch.toInt8.toInt32), vI (15 : Int32)] []) _
                                refine Rch.st (fun _ k => XS.iconst X0.here hx rfl (hb hby dic_31)  k) ?_
                                show Rch p e below s₁ (mkF m 32 #[vR tb, vI ch, vI (0 : Int32), vI (15 : Int32), vI (ch.toInt8.toInt32), vI (15 : Int32)] [(.int (-1 : Int32))]) _
                                have hns : ¬ symB ch = true := fun q => by
                                  rcases sym_cases q with rfl | rfl | rfl | rfl | rfl | rfl | rfl | rfl | rfl | rfl | rfl | rfl | rfl | rfl | rfl
                                  · exact hj0 (by decide)
                                  · exact hj1 (by decide)
                                  · exact hj2 (by decide)
                                  · exact hj3 (by decide)
                                  · exact hj4 (by decide)
                                  · exact hj5 (by decide)
                                  · exact hj6 (by decide)
                                  · exact hj7 (by decide)
                                  · exact hj8 (by decide)
                                  · exact hj9 (by decide)
                                  · exact hj10 (by decide)
                                  · exact hj11 (by decide)
                                  · exact hj12 (by decide)
                                  · exact hj13 (by decide)
                                  · exact hj14 (by decide)
                                exact Rch.fin (Q := Q_idxc Z tb kb ch h0 n0) X0 (v := some (.int (-1 : Int32))) (fun h => by rw [Bd.returns] at h; cases h) (BodyLoose.notSynchronized Bd) (fun fs hr => retI X0 hx Bd.returns (hb hby dic_32) hr) (by rw [e0]; exact ⟨(-1 : Int32), rfl, N0, rfl, fun q => absurd q hns, fun _ => by decide⟩) (by decide) (by decide)
theorem dix_0 : decode jdk_43_method_22_code 0 = .ok (.iload_n 1, 1) := by decide +kernel
theorem dix_1 : decode jdk_43_method_22_code 1 = .ok (.invokestatic 88, 3) := by decide +kernel
theorem dix_4 : decode jdk_43_method_22_code 4 = .ok (.ifCond .ne 5, 3) := by decide +kernel
theorem dix_7 : decode jdk_43_method_22_code 7 = .ok (.iconst (-1), 1) := by decide +kernel
theorem dix_8 : decode jdk_43_method_22_code 8 = .ok (.ireturn, 1) := by decide +kernel
theorem dix_9 : decode jdk_43_method_22_code 9 = .ok (.iload_n 2, 1) := by decide +kernel
theorem dix_10 : decode jdk_43_method_22_code 10 = .ok (.iconst 0, 1) := by decide +kernel
theorem dix_11 : decode jdk_43_method_22_code 11 = .ok (.invokestatic 92, 3) := by decide +kernel
theorem dix_14 : decode jdk_43_method_22_code 14 = .ok (.istore_n 2, 1) := by decide +kernel
theorem dix_15 : decode jdk_43_method_22_code 15 = .ok (.iload_n 3, 1) := by decide +kernel
theorem dix_16 : decode jdk_43_method_22_code 16 = .ok (.aload_n 0, 1) := by decide +kernel
theorem dix_17 : decode jdk_43_method_22_code 17 = .ok (.arraylength, 1) := by decide +kernel
theorem dix_18 : decode jdk_43_method_22_code 18 = .ok (.invokestatic 38, 3) := by decide +kernel
theorem dix_21 : decode jdk_43_method_22_code 21 = .ok (.istore_n 3, 1) := by decide +kernel
theorem dix_22 : decode jdk_43_method_22_code 22 = .ok (.iload_n 2, 1) := by decide +kernel
theorem dix_23 : decode jdk_43_method_22_code 23 = .ok (.iload_n 3, 1) := by decide +kernel
theorem dix_24 : decode jdk_43_method_22_code 24 = .ok (.if_icmp .lt 5, 3) := by decide +kernel
theorem dix_27 : decode jdk_43_method_22_code 27 = .ok (.iconst (-1), 1) := by decide +kernel
theorem dix_28 : decode jdk_43_method_22_code 28 = .ok (.ireturn, 1) := by decide +kernel
theorem dix_29 : decode jdk_43_method_22_code 29 = .ok (.aload_n 0, 1) := by decide +kernel
theorem dix_30 : decode jdk_43_method_22_code 30 = .ok (.iload_n 1, 1) := by decide +kernel
theorem dix_31 : decode jdk_43_method_22_code 31 = .ok (.iload_n 2, 1) := by decide +kernel
theorem dix_32 : decode jdk_43_method_22_code 32 = .ok (.iload_n 3, 1) := by decide +kernel
theorem dix_33 : decode jdk_43_method_22_code 33 = .ok (.invokestatic 95, 3) := by decide +kernel
theorem dix_36 : decode jdk_43_method_22_code 36 = .ok (.ireturn, 1) := by decide +kernel
theorem pn_sidx : plainFor (⟨"java/lang/StringLatin1", "indexOf", "([BIII)I"⟩ : MethodName) = true := by first | exact plainFor_of_name (by first | (simp [plainName, overriddenIn]; done) | decide +kernel) | exact Jvm.Free.JP.mathPlain rfl (by decide +kernel)
theorem ef_sidx (m : MethodId) (x0 : Addr) (x1 : Int32) (x2 : Int32) (x3 : Int32) : entryFrame m #[(.ref x0), (.int x1), (.int x2), (.int x3)] 4 = mkF m 0 #[vR x0, vI x1, vI x2, vI x3] [] := by first | (simp [entryFrame, mkF, argsToLocals, Value.category]; done) | rfl
def Q_sidx (Z : State) (tb : Addr) (kb : ClassId) (ch : Int32) (h0 : Heap) (n0 : Nat) (v : Option Value) (h : Heap) (L : List Loc) : Prop := ∃ r, v = some (.int r) ∧ Fr n0 L ∧ h = h0 ∧ (symB ch = true → ¬ r < 0) ∧ (¬ symB ch = true → r < 0)
set_option maxRecDepth 65536 in
set_option maxHeartbeats 40000000 in
theorem rm_sidx (l : Launch) (Z : State) (a0 : Array Value) (hw : ∀ d ∈ tables_1, d.before a0 Z = true) (ws : List Jvm.Cond) (tb : Addr) (kb : ClassId) (ch : Int32) (h0 : Heap) (n0 : Nat) (Z0 : n0 ≤ h0.size) (hc : ¬ ch < 0) (M : Arv Z h0 tb kb .byte (15 : Int32) [(.int (33 : Int32)), (.int (35 : Int32)), (.int (36 : Int32)), (.int (37 : Int32)), (.int (38 : Int32)), (.int (39 : Int32)), (.int (42 : Int32)), (.int (43 : Int32)), (.int (45 : Int32)), (.int (46 : Int32)), (.int (94 : Int32)), (.int (95 : Int32)), (.int (96 : Int32)), (.int (124 : Int32)), (.int (126 : Int32))] (.int 0)) :
    MetFree l (⟨"java/lang/StringLatin1", "indexOf", "([BIII)I"⟩ : MethodName) (head1 (Jvm.Cond.code (⟨"java/lang/StringLatin1", "indexOf", "([BIII)I"⟩ : MethodName) jdk_43_method_22_code 4 (some .int) :: ws) ({ frames := 1, cells := 0, slots := 0, locals := 17 } : Room)) (fun a U => a = #[(.ref tb), (.int ch), (.int (0 : Int32)), (.int (15 : Int32))] ∧ Z.Warmed39 U.vm ∧ U.heap = h0) (fun _ _ _ _ _ => True) (fun _ U o U' => ∃ v L, o = .returned v ∧ Q_sidx Z tb kb ch h0 n0 v U'.heap L ∧ FrameEnd U o U' L ({ frames := 1, cells := 0, slots := 0, locals := 17 } : Room).cells ({ frames := 1, cells := 0, slots := 0, locals := 17 } : Room).slots) := by
  refine MetFree.of_bodySF pn_sidx hisR ?_
  intro p e s m args below meth c s₁ Bd hml0 hP hK
  obtain ⟨rfl, hZ, hh⟩ := hP
  have hx := Bd.exec
  have hby := Bd.bytes
  have hml : c.maxLocals = 4 := hml0
  have hown : s.vm.findClass "java/lang/StringLatin1" = some m.cls := findClass_of_methodNamed Bd.named
  have hnm := (name_of_methodNamed Bd.named Bd.method).1
  have X0 : Stand p l e ({ frames := 1, cells := 0, slots := 0, locals := 17 } : Room) s m #[(.ref tb), (.int ch), (.int (0 : Int32)), (.int (15 : Int32))] below meth c s₁ [] 0 0 := Stand.of_body Bd
  have e0 : s₁.heap = h0 := by rw [← hh, Bd.state]; rfl
  have N0 := Fr.nil n0
  show Rch p e below s₁ (entryFrame m #[(.ref tb), (.int ch), (.int (0 : Int32)), (.int (15 : Int32))] 4) (fun U o => ∃ v L, o = .returned v ∧ Q_sidx Z tb kb ch h0 n0 v U.heap L ∧ FrameEnd s o U L ({ frames := 1, cells := 0, slots := 0, locals := 17 } : Room).cells ({ frames := 1, cells := 0, slots := 0, locals := 17 } : Room).slots)
  refine Rch.cast (ef_sidx m tb ch (0 : Int32) (15 : Int32)) ?_
  show Rch p e below s₁ (mkF m 0 #[vR tb, vI ch, vI (0 : Int32), vI (15 : Int32)] []) _
  refine Rch.st (fun _ k => XS.iloadN X0.here hx rfl (hb hby dix_0) rfl k) ?_
  show Rch p e below s₁ (mkF m 1 #[vR tb, vI ch, vI (0 : Int32), vI (15 : Int32)] [(.int ch)]) _
  obtain ⟨_, _, ⟨T154, L154, k154, n154⟩, -, X154, ⟨Lc154, hQ154, l154, y154, z154⟩, st154⟩ := Jvm.LawKit.callS X0 hx (y := (⟨"java/lang/StringLatin1", "canEncode", "(I)Z"⟩ : MethodName)) hown (mvT hZ (wq hw 93 rfl)) (mvT hZ (wq hw 94 rfl)) (mvT hZ (wq hw 68 rfl)) (mvT hZ (wq hw 95 rfl)) (by decide) (backOf (W := 0) (rm_canI l Z a0 hw [] ch h0 n0 Z0 hc) hZ (wq hw 95 rfl) (wq hw 68 rfl) (by decide) (by decide)) (g := (mkF m 1 #[vR tb, vI ch, vI (0 : Int32), vI (15 : Int32)] [(.int ch)])) rfl (by rw [hml]; rfl) (argsL := [(.int ch)]) (rest := []) (lenOf pd_13 rfl) rfl (by show 2 * 0 + _ ≤ _; exact Nat.le_of_eq rfl) (hb hby dix_1) (fun _ _ => ⟨rfl, e0, (by decide : 0 + 0 ≤ _), (by decide : 0 + 0 ≤ _)⟩)
  dsimp only [Pt.U, Pt.locs, Pt.cells, Pt.slots] at X154 l154 y154 z154 st154 hQ154
  subst l154 y154 z154
  obtain ⟨r154, rfl, Nq154, e154, u154, v154⟩ := hQ154
  have N154 := Fr.app N0 Nq154
  refine Rch.st st154 ?_
  show Rch p e below T154 (mkF m 4 #[vR tb, vI ch, vI (0 : Int32), vI (15 : Int32)] [(.int r154)]) _
  by_cases hq : (255 : Int32) < ch
  · skip
    obtain rfl : r154 = 0 := v154 hq
    show Rch p e below T154 (mkF m 4 #[vR tb, vI ch, vI (0 : Int32), vI (15 : Int32)] [(.int (0 : Int32))]) _
    refine Rch.st (fun _ k => XS.ifNo X154.here hx rfl (hb hby dix_4) rfl (by decide : ifCond.holds .ne (0 : Int32) = false) k) ?_
    refine Rch.st (fun _ k => XS.iconst X154.here hx rfl (hb hby dix_7)  k) ?_
    show Rch p e below T154 (mkF m 8 #[vR tb, vI ch, vI (0 : Int32), vI (15 : Int32)] [(.int (-1 : Int32))]) _
    have hns : ¬ symB ch = true := fun q => by rcases sym_cases q with rfl | rfl | rfl | rfl | rfl | rfl | rfl | rfl | rfl | rfl | rfl | rfl | rfl | rfl | rfl <;> exact absurd hq (by decide)
    exact Rch.fin (Q := Q_sidx Z tb kb ch h0 n0) X154 (v := some (.int (-1 : Int32))) (fun h => by rw [Bd.returns] at h; cases h) (BodyLoose.notSynchronized Bd) (fun fs hr => retI X154 hx Bd.returns (hb hby dix_8) hr) (by rw [e154]; exact ⟨(-1 : Int32), rfl, N154, rfl, fun q => absurd q hns, fun _ => by decide⟩) (by decide) (by decide)
  · skip
    obtain rfl : r154 = 1 := u154 hq
    show Rch p e below T154 (mkF m 4 #[vR tb, vI ch, vI (0 : Int32), vI (15 : Int32)] [(.int (1 : Int32))]) _
    refine Rch.st (fun _ k => XS.ifYes X154.here hx rfl (pc0 := 4) (pc' := 9) rfl (hb hby dix_4) rfl (by decide : ifCond.holds .ne (1 : Int32) = true) (by decide) (by decide) k) ?_
    refine Rch.st (fun _ k => XS.iloadN X154.here hx rfl (hb hby dix_9) rfl k) ?_
    show Rch p e below T154 (mkF m 10 #[vR tb, vI ch, vI (0 : Int32), vI (15 : Int32)] [(.int (0 : Int32))]) _
    refine Rch.st (fun _ k => XS.iconst X154.here hx rfl (hb hby dix_10)  k) ?_
    show Rch p e below T154 (mkF m 11 #[vR tb, vI ch, vI (0 : Int32), vI (15 : Int32)] [(.int (0 : Int32)), (.int (0 : Int32))]) _
    obtain ⟨_, _, ⟨T155, L155, k155, n155⟩, -, X155, ⟨Lc155, hQ155, l155, y155, z155⟩, st155⟩ := Jvm.LawKit.callS X154 hx (y := (⟨"java/lang/Math", "max", "(II)I"⟩ : MethodName)) hown (mvT hZ (wq hw 96 rfl)) (mvT hZ (wq hw 97 rfl)) (mvT hZ (wq hw 98 rfl)) (mvT hZ (wq hw 99 rfl)) (by decide) (backOf (W := 0) (rm_max0 l Z a0 hw [] h0 n0 Z0) hZ (wq hw 99 rfl) (wq hw 98 rfl) (by decide) (by decide)) (g := (mkF m 11 #[vR tb, vI ch, vI (0 : Int32), vI (15 : Int32)] [(.int (0 : Int32)), (.int (0 : Int32))])) rfl (by rw [hml]; rfl) (argsL := [(.int (0 : Int32)), (.int (0 : Int32))]) (rest := []) (lenOf pd_14 rfl) rfl (by show 2 * 0 + _ ≤ _; exact Nat.le_of_eq rfl) (hb hby dix_11) (fun _ _ => ⟨rfl, e154, (by decide : 0 + 0 ≤ _), (by decide : 0 + 0 ≤ _)⟩)
    dsimp only [Pt.U, Pt.locs, Pt.cells, Pt.slots] at X155 l155 y155 z155 st155 hQ155
    subst l155 y155 z155
    obtain ⟨rfl, Nq155, e155⟩ := hQ155
    have N155 := Fr.app N154 Nq155
    refine Rch.st st155 ?_
    show Rch p e below T155 (mkF m 14 #[vR tb, vI ch, vI (0 : Int32), vI (15 : Int32)] [(.int (0 : Int32))]) _
    refine Rch.st (fun _ k => XS.istoreN X155.here hx rfl (hb hby dix_14) rfl (l' := #[vR tb, vI ch, vI (0 : Int32), vI (15 : Int32)]) rfl k) ?_
    refine Rch.st (fun _ k => XS.iloadN X155.here hx rfl (hb hby dix_15) rfl k) ?_
    show Rch p e below T155 (mkF m 16 #[vR tb, vI ch, vI (0 : Int32), vI (15 : Int32)] [(.int (15 : Int32))]) _
    refine Rch.st (fun _ k => XS.aloadN X155.here hx rfl (hb hby dix_16) rfl rfl k) ?_
    show Rch p e below T155 (mkF m 17 #[vR tb, vI ch, vI (0 : Int32), vI (15 : Int32)] [(.ref tb), (.int (15 : Int32))]) _
    refine Rch.st (alenA X155 hx hZ e155 M.arh (g := (mkF m 17 #[vR tb, vI ch, vI (0 : Int32), vI (15 : Int32)] [(.ref tb), (.int (15 : Int32))])) rfl rfl (hb hby dix_17)) ?_
    show Rch p e below T155 (mkF m 18 #[vR tb, vI ch, vI (0 : Int32), vI (15 : Int32)] [(.int (15 : Int32)), (.int (15 : Int32))]) _
    obtain ⟨_, _, ⟨T156, L156, k156, n156⟩, -, X156, ⟨Lc156, hQ156, l156, y156, z156⟩, st156⟩ := Jvm.LawKit.callS X155 hx (y := (⟨"java/lang/Math", "min", "(II)I"⟩ : MethodName)) hown (mvT hZ (wq hw 100 rfl)) (mvT hZ (wq hw 101 rfl)) (mvT hZ (wq hw 98 rfl)) (mvT hZ (wq hw 102 rfl)) (by decide) (backOf (W := 0) (rm_min15 l Z a0 hw [] h0 n0 Z0) hZ (wq hw 102 rfl) (wq hw 98 rfl) (by decide) (by decide)) (g := (mkF m 18 #[vR tb, vI ch, vI (0 : Int32), vI (15 : Int32)] [(.int (15 : Int32)), (.int (15 : Int32))])) rfl (by rw [hml]; rfl) (argsL := [(.int (15 : Int32)), (.int (15 : Int32))]) (rest := []) (lenOf pd_14 rfl) rfl (by show 2 * 0 + _ ≤ _; exact Nat.le_of_eq rfl) (hb hby dix_18) (fun _ _ => ⟨rfl, e155, (by decide : 0 + 0 ≤ _), (by decide : 0 + 0 ≤ _)⟩)
    dsimp only [Pt.U, Pt.locs, Pt.cells, Pt.slots] at X156 l156 y156 z156 st156 hQ156
    subst l156 y156 z156
    obtain ⟨rfl, Nq156, e156⟩ := hQ156
    have N156 := Fr.app N155 Nq156
    refine Rch.st st156 ?_
    show Rch p e below T156 (mkF m 21 #[vR tb, vI ch, vI (0 : Int32), vI (15 : Int32)] [(.int (15 : Int32))]) _
    refine Rch.st (fun _ k => XS.istoreN X156.here hx rfl (hb hby dix_21) rfl (l' := #[vR tb, vI ch, vI (0 : Int32), vI (15 : Int32)]) rfl k) ?_
    refine Rch.st (fun _ k => XS.iloadN X156.here hx rfl (hb hby dix_22) rfl k) ?_
    show Rch p e below T156 (mkF m 23 #[vR tb, vI ch, vI (0 : Int32), vI (15 : Int32)] [(.int (0 : Int32))]) _
    refine Rch.st (fun _ k => XS.iloadN X156.here hx rfl (hb hby dix_23) rfl k) ?_
    refine Rch.st (fun _ k => XS.icmpYes X156.here hx rfl (pc0 := 24) (pc' := 29) rfl (hb hby dix_24) rfl (by decide : if_icmp.holds .lt (0 : Int32) (15 : Int32) = true) (by decide) (by decide) k) ?_
    show Rch p e below T156 (mkF m 29 #[vR tb, vI ch, vI (0 : Int32), vI (15 : Int32)] []) _
    refine Rch.st (fun _ k => XS.aloadN X156.here hx rfl (hb hby dix_29) rfl rfl k) ?_
    refine Rch.st (fun _ k => XS.iloadN X156.here hx rfl (hb hby dix_30) rfl k) ?_
    show Rch p e below T156 (mkF m 31 #[vR tb, vI ch, vI (0 : Int32), vI (15 : Int32)] [(.int ch), (.ref tb)]) _
    refine Rch.st (fun _ k => XS.iloadN X156.here hx rfl (hb hby dix_31) rfl k) ?_
    refine Rch.st (fun _ k => XS.iloadN X156.here hx rfl (hb hby dix_32) rfl k) ?_
    show Rch p e below T156 (mkF m 33 #[vR tb, vI ch, vI (0 : Int32), vI (15 : Int32)] [(.int (15 : Int32)), (.int (0 : Int32)), (.int ch), (.ref tb)]) _
    obtain ⟨_, _, ⟨T157, L157, k157, n157⟩, -, X157, ⟨Lc157, hQ157, l157, y157, z157⟩, st157⟩ := Jvm.LawKit.callS X156 hx (y := (⟨"java/lang/StringLatin1", "indexOfChar", "([BIII)I"⟩ : MethodName)) hown (mvT hZ (wq hw 103 rfl)) (mvT hZ (wq hw 104 rfl)) (mvT hZ (wq hw 68 rfl)) (mvT hZ (wq hw 105 rfl)) (by decide) (backOf (W := 0) (rm_idxc l Z a0 hw [] tb kb ch h0 n0 Z0 hc hq M) hZ (wq hw 105 rfl) (wq hw 68 rfl) (by decide) (by decide)) (g := (mkF m 33 #[vR tb, vI ch, vI (0 : Int32), vI (15 : Int32)] [(.int (15 : Int32)), (.int (0 : Int32)), (.int ch), (.ref tb)])) rfl (by rw [hml]; rfl) (argsL := [(.ref tb), (.int ch), (.int (0 : Int32)), (.int (15 : Int32))]) (rest := []) (lenOf pd_15 rfl) rfl (by show 2 * 0 + _ ≤ _; exact Nat.le_of_eq rfl) (hb hby dix_33) (fun _ _ => ⟨rfl, e156, (by decide : 0 + 0 ≤ _), (by decide : 0 + 0 ≤ _)⟩)
    dsimp only [Pt.U, Pt.locs, Pt.cells, Pt.slots] at X157 l157 y157 z157 st157 hQ157
    subst l157 y157 z157
    obtain ⟨r157, rfl, Nq157, e157, u157, v157⟩ := hQ157
    have N157 := Fr.app N156 Nq157
    refine Rch.st st157 ?_
    show Rch p e below T157 (mkF m 36 #[vR tb, vI ch, vI (0 : Int32), vI (15 : Int32)] [(.int r157)]) _
    exact Rch.fin (Q := Q_sidx Z tb kb ch h0 n0) X157 (v := some (.int r157)) (fun h => by rw [Bd.returns] at h; cases h) (BodyLoose.notSynchronized Bd) (fun fs hr => retI X157 hx Bd.returns (hb hby dix_36) hr) (by rw [e157]; exact ⟨r157, rfl, N157, rfl, u157, v157⟩) (by decide) (by decide)
theorem di2_0 : decode jdk_42_method_80_code 0 = .ok (.aload_n 0, 1) := by decide +kernel
theorem di2_1 : decode jdk_42_method_80_code 1 = .ok (.invokevirtual 492, 3) := by decide +kernel
theorem di2_4 : decode jdk_42_method_80_code 4 = .ok (.ifCond .eq 19, 3) := by decide +kernel
theorem di2_7 : decode jdk_42_method_80_code 7 = .ok (.aload_n 0, 1) := by decide +kernel
theorem di2_8 : decode jdk_42_method_80_code 8 = .ok (.getfield 9, 3) := by decide +kernel
theorem di2_11 : decode jdk_42_method_80_code 11 = .ok (.iload_n 1, 1) := by decide +kernel
theorem di2_12 : decode jdk_42_method_80_code 12 = .ok (.iload_n 2, 1) := by decide +kernel
theorem di2_13 : decode jdk_42_method_80_code 13 = .ok (.aload_n 0, 1) := by decide +kernel
theorem di2_14 : decode jdk_42_method_80_code 14 = .ok (.invokevirtual 505, 3) := by decide +kernel
theorem di2_17 : decode jdk_42_method_80_code 17 = .ok (.invokestatic 637, 3) := by decide +kernel
theorem di2_20 : decode jdk_42_method_80_code 20 = .ok (.goto 16, 3) := by decide +kernel
theorem di2_23 : decode jdk_42_method_80_code 23 = .ok (.aload_n 0, 1) := by decide +kernel
theorem di2_24 : decode jdk_42_method_80_code 24 = .ok (.getfield 9, 3) := by decide +kernel
theorem di2_27 : decode jdk_42_method_80_code 27 = .ok (.iload_n 1, 1) := by decide +kernel
theorem di2_28 : decode jdk_42_method_80_code 28 = .ok (.iload_n 2, 1) := by decide +kernel
theorem di2_29 : decode jdk_42_method_80_code 29 = .ok (.aload_n 0, 1) := by decide +kernel
theorem di2_30 : decode jdk_42_method_80_code 30 = .ok (.invokevirtual 505, 3) := by decide +kernel
theorem di2_33 : decode jdk_42_method_80_code 33 = .ok (.invokestatic 640, 3) := by decide +kernel
theorem di2_36 : decode jdk_42_method_80_code 36 = .ok (.ireturn, 1) := by decide +kernel
theorem pn_idx2 : plainFor (⟨"java/lang/String", "indexOf", "(II)I"⟩ : MethodName) = true := by first | exact plainFor_of_name (by first | (simp [plainName, overriddenIn]; done) | decide +kernel) | exact Jvm.Free.JP.mathPlain rfl (by decide +kernel)
theorem ef_idx2 (m : MethodId) (x0 : Addr) (x1 : Int32) (x2 : Int32) : entryFrame m #[(.ref x0), (.int x1), (.int x2)] 3 = mkF m 0 #[vR x0, vI x1, vI x2] [] := by first | (simp [entryFrame, mkF, argsToLocals, Value.category]; done) | rfl
def Q_idx2 (Z : State) (ta tb : Addr) (kb : ClassId) (ch : Int32) (h0 : Heap) (n0 : Nat) (v : Option Value) (h : Heap) (L : List Loc) : Prop := ∃ r, v = some (.int r) ∧ Fr n0 L ∧ h = h0 ∧ (symB ch = true → ¬ r < 0) ∧ (¬ symB ch = true → r < 0)
set_option maxRecDepth 65536 in
set_option maxHeartbeats 40000000 in
theorem rm_idx2 (l : Launch) (Z : State) (a0 : Array Value) (hw : ∀ d ∈ tables_1, d.before a0 Z = true) (ws : List Jvm.Cond) (ta tb : Addr) (kb : ClassId) (ch : Int32) (h0 : Heap) (n0 : Nat) (Z0 : n0 ≤ h0.size) (CS : Cmp Z h0) (E1 : Exa Z h0 ta "java/lang/String") (F1 : Fld Z h0 ta "java/lang/String" "value" "[B" (.ref tb)) (F2 : Fld Z h0 ta "java/lang/String" "coder" "B" (.int (0 : Int32))) (S1 : StrA Z h0 ta [33, 35, 36, 37, 38, 39, 42, 43, 45, 46, 94, 95, 96, 124, 126]) (hc : ¬ ch < 0) (M : Arv Z h0 tb kb .byte (15 : Int32) [(.int (33 : Int32)), (.int (35 : Int32)), (.int (36 : Int32)), (.int (37 : Int32)), (.int (38 : Int32)), (.int (39 : Int32)), (.int (42 : Int32)), (.int (43 : Int32)), (.int (45 : Int32)), (.int (46 : Int32)), (.int (94 : Int32)), (.int (95 : Int32)), (.int (96 : Int32)), (.int (124 : Int32)), (.int (126 : Int32))] (.int 0)) :
    MetFree l (⟨"java/lang/String", "indexOf", "(II)I"⟩ : MethodName) (head1 (Jvm.Cond.code (⟨"java/lang/String", "indexOf", "(II)I"⟩ : MethodName) jdk_42_method_80_code 3 (some .int) :: ws) ({ frames := 2, cells := 0, slots := 0, locals := 32 } : Room)) (fun a U => a = #[(.ref ta), (.int ch), (.int (0 : Int32))] ∧ Z.Warmed39 U.vm ∧ U.heap = h0) (fun _ _ _ _ _ => True) (fun _ U o U' => ∃ v L, o = .returned v ∧ Q_idx2 Z ta tb kb ch h0 n0 v U'.heap L ∧ FrameEnd U o U' L ({ frames := 2, cells := 0, slots := 0, locals := 32 } : Room).cells ({ frames := 2, cells := 0, slots := 0, locals := 32 } : Room).slots) := by
  refine MetFree.of_bodySF pn_idx2 hisR ?_
  intro p e s m args below meth c s₁ Bd hml0 hP hK
  obtain ⟨rfl, hZ, hh⟩ := hP
  have hx := Bd.exec
  have hby := Bd.bytes
  have hml : c.maxLocals = 3 := hml0
  have hown : s.vm.findClass "java/lang/String" = some m.cls := findClass_of_methodNamed Bd.named
  have hnm := (name_of_methodNamed Bd.named Bd.method).1
  have X0 : Stand p l e ({ frames := 2, cells := 0, slots := 0, locals := 32 } : Room) s m #[(.ref ta), (.int ch), (.int (0 : Int32))] below meth c s₁ [] 0 0 := Stand.of_body Bd
  have e0 : s₁.heap = h0 := by rw [← hh, Bd.state]; rfl
  have N0 := Fr.nil n0
  show Rch p e below s₁ (entryFrame m #[(.ref ta), (.int ch), (.int (0 : Int32))] 3) (fun U o => ∃ v L, o = .returned v ∧ Q_idx2 Z ta tb kb ch h0 n0 v U.heap L ∧ FrameEnd s o U L ({ frames := 2, cells := 0, slots := 0, locals := 32 } : Room).cells ({ frames := 2, cells := 0, slots := 0, locals := 32 } : Room).slots)
  refine Rch.cast (ef_idx2 m ta ch (0 : Int32)) ?_
  show Rch p e below s₁ (mkF m 0 #[vR ta, vI ch, vI (0 : Int32)] []) _
  refine Rch.st (fun _ k => XS.aloadN X0.here hx rfl (hb hby di2_0) rfl rfl k) ?_
  show Rch p e below s₁ (mkF m 1 #[vR ta, vI ch, vI (0 : Int32)] [(.ref ta)]) _
  obtain ⟨cq158, kq158, q158a, q158b, q158c⟩ := isOf hZ e0 E1
  obtain ⟨_, _, ⟨T158, L158, k158, n158⟩, -, X158, ⟨Lc158, hQ158, l158, y158, z158⟩, st158⟩ := X0.virtualBack hx (y := (⟨"java/lang/String", "isLatin1", "()Z"⟩ : MethodName)) (z := (⟨"java/lang/String", "isLatin1", "()Z"⟩ : MethodName)) hown (mvT hZ (wq hw 61 rfl)) (mvT hZ (wq hw 62 rfl)) (notFace_of_selects (args := #[]) (mvT hZ (wq hw 64 rfl))) (mvT hZ (wq hw 64 rfl)) (mvT hZ (wq hw 63 rfl)) (by decide) (backOf (W := 0) (rm_isl l Z a0 hw [] ta (0 : Int32) h0 n0 Z0 CS F2) hZ (wq hw 65 rfl) (wq hw 3 rfl) (by decide) (by decide)) q158a q158c (g := (mkF m 1 #[vR ta, vI ch, vI (0 : Int32)] [(.ref ta)])) rfl (by rw [hml]; rfl) (Steps.refl _) (argsL := []) (rest := []) (lenOf pd_5 rfl) rfl (by show 2 * 0 + _ ≤ _; exact Nat.le_of_eq rfl) (hb hby di2_1) (fun _ _ => ⟨rfl, e0, (by decide : 0 + 0 ≤ _), (by decide : 0 + 0 ≤ _)⟩)
  dsimp only [Pt.U, Pt.locs, Pt.cells, Pt.slots] at X158 l158 y158 z158 st158 hQ158
  subst l158 y158 z158
  obtain ⟨r158, rfl, Nq158, e158, u158, v158⟩ := hQ158
  have N158 := Fr.app N0 Nq158
  obtain rfl : r158 = 1 := u158 rfl
  refine Rch.go st158 ?_
  show Rch p e below T158 (mkF m 4 #[vR ta, vI ch, vI (0 : Int32)] [(.int (1 : Int32))]) _
  refine Rch.st (fun _ k => XS.ifNo X158.here hx rfl (hb hby di2_4) rfl (by decide : ifCond.holds .eq (1 : Int32) = false) k) ?_
  refine Rch.st (fun _ k => XS.aloadN X158.here hx rfl (hb hby di2_7) rfl rfl k) ?_
  show Rch p e below T158 (mkF m 8 #[vR ta, vI ch, vI (0 : Int32)] [(.ref ta)]) _
  obtain ⟨T159, X159, e159, st159⟩ := getF X158 hx hZ hown (host := "") (Or.inl (wq hw 20 rfl)) Via.refl e158 F1 (g := (mkF m 8 #[vR ta, vI ch, vI (0 : Int32)] [(.ref ta)])) rfl rfl (hb hby di2_8)
  refine Rch.st st159 ?_
  show Rch p e below T159 (mkF m 11 #[vR ta, vI ch, vI (0 : Int32)] [(.ref tb)]) _
  refine Rch.st (fun _ k => XS.iloadN X159.here hx rfl (hb hby di2_11) rfl k) ?_
  refine Rch.st (fun _ k => XS.iloadN X159.here hx rfl (hb hby di2_12) rfl k) ?_
  show Rch p e below T159 (mkF m 13 #[vR ta, vI ch, vI (0 : Int32)] [(.int (0 : Int32)), (.int ch), (.ref tb)]) _
  refine Rch.st (fun _ k => XS.aloadN X159.here hx rfl (hb hby di2_13) rfl rfl k) ?_
  show Rch p e below T159 (mkF m 14 #[vR ta, vI ch, vI (0 : Int32)] [(.ref ta), (.int (0 : Int32)), (.int ch), (.ref tb)]) _
  obtain ⟨cq160, kq160, q160a, q160b, q160c⟩ := isOf hZ e159 E1
  obtain ⟨_, _, ⟨T160, L160, k160, n160⟩, -, X160, ⟨Lc160, hQ160, l160, y160, z160⟩, st160⟩ := X159.virtualBack hx (y := (⟨"java/lang/String", "length", "()I"⟩ : MethodName)) (z := (⟨"java/lang/String", "length", "()I"⟩ : MethodName)) hown (mvT hZ (wq hw 89 rfl)) (mvT hZ (wq hw 47 rfl)) (notFace_of_selects (args := #[]) (mvT hZ (wq hw 49 rfl))) (mvT hZ (wq hw 49 rfl)) (mvT hZ (wq hw 48 rfl)) (by decide) (lenS (W := 3) hZ hw S1 CS (by decide) (by decide) (by decide)) q160a q160c (g := (mkF m 14 #[vR ta, vI ch, vI (0 : Int32)] [(.ref ta), (.int (0 : Int32)), (.int ch), (.ref tb)])) rfl (by rw [hml]; rfl) (Steps.refl _) (argsL := []) (rest := [(.int (0 : Int32)), (.int ch), (.ref tb)]) (lenOf pd_16 rfl) rfl (by show 2 * 0 + _ ≤ _; exact Nat.le_of_eq rfl) (hb hby di2_14) (fun _ _ => ⟨rfl, e159, (by decide : 0 + 0 ≤ _), (by decide : 0 + 0 ≤ _)⟩)
  dsimp only [Pt.U, Pt.locs, Pt.cells, Pt.slots] at X160 l160 y160 z160 st160 hQ160
  subst l160 y160 z160
  obtain ⟨rfl, hL160, e160⟩ := hQ160
  subst hL160
  have Nq160 := Fr.nil n0
  have N160 := Fr.app N158 Nq160
  refine Rch.go st160 ?_
  show Rch p e below T160 (mkF m 17 #[vR ta, vI ch, vI (0 : Int32)] [(.int (15 : Int32)), (.int (0 : Int32)), (.int ch), (.ref tb)]) _
  obtain ⟨_, _, ⟨T161, L161, k161, n161⟩, -, X161, ⟨Lc161, hQ161, l161, y161, z161⟩, st161⟩ := Jvm.LawKit.callS X160 hx (y := (⟨"java/lang/StringLatin1", "indexOf", "([BIII)I"⟩ : MethodName)) hown (mvT hZ (wq hw 90 rfl)) (mvT hZ (wq hw 91 rfl)) (mvT hZ (wq hw 68 rfl)) (mvT hZ (wq hw 92 rfl)) (by decide) (backOf (W := 0) (rm_sidx l Z a0 hw [] tb kb ch h0 n0 Z0 hc M) hZ (wq hw 92 rfl) (wq hw 68 rfl) (by decide) (by decide)) (g := (mkF m 17 #[vR ta, vI ch, vI (0 : Int32)] [(.int (15 : Int32)), (.int (0 : Int32)), (.int ch), (.ref tb)])) rfl (by rw [hml]; rfl) (argsL := [(.ref tb), (.int ch), (.int (0 : Int32)), (.int (15 : Int32))]) (rest := []) (lenOf pd_15 rfl) rfl (by show 2 * 0 + _ ≤ _; exact Nat.le_of_eq rfl) (hb hby di2_17) (fun _ _ => ⟨rfl, e160, (by decide : 0 + 0 ≤ _), (by decide : 0 + 0 ≤ _)⟩)
  dsimp only [Pt.U, Pt.locs, Pt.cells, Pt.slots] at X161 l161 y161 z161 st161 hQ161
  subst l161 y161 z161
  obtain ⟨r161, rfl, Nq161, e161, u161, v161⟩ := hQ161
  have N161 := Fr.app N160 Nq161
  refine Rch.st st161 ?_
  show Rch p e below T161 (mkF m 20 #[vR ta, vI ch, vI (0 : Int32)] [(.int r161)]) _
  refine Rch.st (fun _ k => XS.goto X161.here hx rfl (pc0 := 20) (pc' := 36) rfl (hb hby di2_20) (by decide) (by decide) k) ?_
  show Rch p e below T161 (mkF m 36 #[vR ta, vI ch, vI (0 : Int32)] [(.int r161)]) _
  exact Rch.fin (Q := Q_idx2 Z ta tb kb ch h0 n0) X161 (v := some (.int r161)) (fun h => by rw [Bd.returns] at h; cases h) (BodyLoose.notSynchronized Bd) (fun fs hr => retI X161 hx Bd.returns (hb hby di2_36) hr) (by rw [e161]; exact ⟨r161, rfl, N161, rfl, u161, v161⟩) (by decide) (by decide)
theorem di1_0 : decode jdk_42_method_79_code 0 = .ok (.aload_n 0, 1) := by decide +kernel
theorem di1_1 : decode jdk_42_method_79_code 1 = .ok (.iload_n 1, 1) := by decide +kernel
theorem di1_2 : decode jdk_42_method_79_code 2 = .ok (.iconst 0, 1) := by decide +kernel
theorem di1_3 : decode jdk_42_method_79_code 3 = .ok (.invokevirtual 633, 3) := by decide +kernel
theorem di1_6 : decode jdk_42_method_79_code 6 = .ok (.ireturn, 1) := by decide +kernel
theorem pn_idx1 : plainFor (⟨"java/lang/String", "indexOf", "(I)I"⟩ : MethodName) = true := by first | exact plainFor_of_name (by first | (simp [plainName, overriddenIn]; done) | decide +kernel) | exact Jvm.Free.JP.mathPlain rfl (by decide +kernel)
theorem ef_idx1 (m : MethodId) (x0 : Addr) (x1 : Int32) : entryFrame m #[(.ref x0), (.int x1)] 2 = mkF m 0 #[vR x0, vI x1] [] := by first | (simp [entryFrame, mkF, argsToLocals, Value.category]; done) | rfl
def Q_idx1 (Z : State) (ta tb : Addr) (kb : ClassId) (ch : Int32) (h0 : Heap) (n0 : Nat) (v : Option Value) (h : Heap) (L : List Loc) : Prop := ∃ r, v = some (.int r) ∧ Fr n0 L ∧ h = h0 ∧ (symB ch = true → ¬ r < 0) ∧ (¬ symB ch = true → r < 0)
set_option maxRecDepth 65536 in
set_option maxHeartbeats 40000000 in
theorem rm_idx1 (l : Launch) (Z : State) (a0 : Array Value) (hw : ∀ d ∈ tables_1, d.before a0 Z = true) (ws : List Jvm.Cond) (ta tb : Addr) (kb : ClassId) (ch : Int32) (h0 : Heap) (n0 : Nat) (Z0 : n0 ≤ h0.size) (CS : Cmp Z h0) (E1 : Exa Z h0 ta "java/lang/String") (F1 : Fld Z h0 ta "java/lang/String" "value" "[B" (.ref tb)) (F2 : Fld Z h0 ta "java/lang/String" "coder" "B" (.int (0 : Int32))) (S1 : StrA Z h0 ta [33, 35, 36, 37, 38, 39, 42, 43, 45, 46, 94, 95, 96, 124, 126]) (hc : ¬ ch < 0) (M : Arv Z h0 tb kb .byte (15 : Int32) [(.int (33 : Int32)), (.int (35 : Int32)), (.int (36 : Int32)), (.int (37 : Int32)), (.int (38 : Int32)), (.int (39 : Int32)), (.int (42 : Int32)), (.int (43 : Int32)), (.int (45 : Int32)), (.int (46 : Int32)), (.int (94 : Int32)), (.int (95 : Int32)), (.int (96 : Int32)), (.int (124 : Int32)), (.int (126 : Int32))] (.int 0)) :
    MetFree l (⟨"java/lang/String", "indexOf", "(I)I"⟩ : MethodName) (head1 (Jvm.Cond.code (⟨"java/lang/String", "indexOf", "(I)I"⟩ : MethodName) jdk_42_method_79_code 2 (some .int) :: ws) ({ frames := 3, cells := 0, slots := 0, locals := 46 } : Room)) (fun a U => a = #[(.ref ta), (.int ch)] ∧ Z.Warmed39 U.vm ∧ U.heap = h0) (fun _ _ _ _ _ => True) (fun _ U o U' => ∃ v L, o = .returned v ∧ Q_idx1 Z ta tb kb ch h0 n0 v U'.heap L ∧ FrameEnd U o U' L ({ frames := 3, cells := 0, slots := 0, locals := 46 } : Room).cells ({ frames := 3, cells := 0, slots := 0, locals := 46 } : Room).slots) := by
  refine MetFree.of_bodySF pn_idx1 hisR ?_
  intro p e s m args below meth c s₁ Bd hml0 hP hK
  obtain ⟨rfl, hZ, hh⟩ := hP
  have hx := Bd.exec
  have hby := Bd.bytes
  have hml : c.maxLocals = 2 := hml0
  have hown : s.vm.findClass "java/lang/String" = some m.cls := findClass_of_methodNamed Bd.named
  have hnm := (name_of_methodNamed Bd.named Bd.method).1
  have X0 : Stand p l e ({ frames := 3, cells := 0, slots := 0, locals := 46 } : Room) s m #[(.ref ta), (.int ch)] below meth c s₁ [] 0 0 := Stand.of_body Bd
  have e0 : s₁.heap = h0 := by rw [← hh, Bd.state]; rfl
  have N0 := Fr.nil n0
  show Rch p e below s₁ (entryFrame m #[(.ref ta), (.int ch)] 2) (fun U o => ∃ v L, o = .returned v ∧ Q_idx1 Z ta tb kb ch h0 n0 v U.heap L ∧ FrameEnd s o U L ({ frames := 3, cells := 0, slots := 0, locals := 46 } : Room).cells ({ frames := 3, cells := 0, slots := 0, locals := 46 } : Room).slots)
  refine Rch.cast (ef_idx1 m ta ch) ?_
  show Rch p e below s₁ (mkF m 0 #[vR ta, vI ch] []) _
  refine Rch.st (fun _ k => XS.aloadN X0.here hx rfl (hb hby di1_0) rfl rfl k) ?_
  refine Rch.st (fun _ k => XS.iloadN X0.here hx rfl (hb hby di1_1) rfl k) ?_
  show Rch p e below s₁ (mkF m 2 #[vR ta, vI ch] [(.int ch), (.ref ta)]) _
  refine Rch.st (fun _ k => XS.iconst X0.here hx rfl (hb hby di1_2)  k) ?_
  show Rch p e below s₁ (mkF m 3 #[vR ta, vI ch] [(.int (0 : Int32)), (.int ch), (.ref ta)]) _
  obtain ⟨cq162, kq162, q162a, q162b, q162c⟩ := isOf hZ e0 E1
  obtain ⟨_, _, ⟨T162, L162, k162, n162⟩, -, X162, ⟨Lc162, hQ162, l162, y162, z162⟩, st162⟩ := X0.virtualBack hx (y := (⟨"java/lang/String", "indexOf", "(II)I"⟩ : MethodName)) (z := (⟨"java/lang/String", "indexOf", "(II)I"⟩ : MethodName)) hown (mvT hZ (wq hw 84 rfl)) (mvT hZ (wq hw 85 rfl)) (notFace_of_selects (args := #[]) (mvT hZ (wq hw 87 rfl))) (mvT hZ (wq hw 87 rfl)) (mvT hZ (wq hw 86 rfl)) (by decide) (backOf (W := 0) (rm_idx2 l Z a0 hw [] ta tb kb ch h0 n0 Z0 CS E1 F1 F2 S1 hc M) hZ (wq hw 88 rfl) (wq hw 3 rfl) (by decide) (by decide)) q162a q162c (g := (mkF m 3 #[vR ta, vI ch] [(.int (0 : Int32)), (.int ch), (.ref ta)])) rfl (by rw [hml]; rfl) (Steps.refl _) (argsL := [(.int ch), (.int (0 : Int32))]) (rest := []) (lenOf pd_14 rfl) rfl (by show 2 * 0 + _ ≤ _; exact Nat.le_of_eq rfl) (hb hby di1_3) (fun _ _ => ⟨rfl, e0, (by decide : 0 + 0 ≤ _), (by decide : 0 + 0 ≤ _)⟩)
  dsimp only [Pt.U, Pt.locs, Pt.cells, Pt.slots] at X162 l162 y162 z162 st162 hQ162
  subst l162 y162 z162
  obtain ⟨r162, rfl, Nq162, e162, u162, v162⟩ := hQ162
  have N162 := Fr.app N0 Nq162
  refine Rch.go st162 ?_
  show Rch p e below T162 (mkF m 6 #[vR ta, vI ch] [(.int r162)]) _
  exact Rch.fin (Q := Q_idx1 Z ta tb kb ch h0 n0) X162 (v := some (.int r162)) (fun h => by rw [Bd.returns] at h; cases h) (BodyLoose.notSynchronized Bd) (fun fs hr => retI X162 hx Bd.returns (hb hby di1_6) hr) (by rw [e162]; exact ⟨r162, rfl, N162, rfl, u162, v162⟩) (by decide) (by decide)
theorem dit_0 : decode prog_21_method_2_code 0 = .ok (.aload_n 0, 1) := by decide +kernel
theorem dit_1 : decode prog_21_method_2_code 1 = .ok (.invokevirtual 24, 3) := by decide +kernel
theorem dit_4 : decode prog_21_method_2_code 4 = .ok (.ifCond .eq 5, 3) := by decide +kernel
theorem dit_7 : decode prog_21_method_2_code 7 = .ok (.iconst 0, 1) := by decide +kernel
theorem dit_8 : decode prog_21_method_2_code 8 = .ok (.ireturn, 1) := by decide +kernel
theorem dit_9 : decode prog_21_method_2_code 9 = .ok (.iconst 0, 1) := by decide +kernel
theorem dit_10 : decode prog_21_method_2_code 10 = .ok (.istore_n 1, 1) := by decide +kernel
theorem dit_11 : decode prog_21_method_2_code 11 = .ok (.iload_n 1, 1) := by decide +kernel
theorem dit_12 : decode prog_21_method_2_code 12 = .ok (.aload_n 0, 1) := by decide +kernel
theorem dit_13 : decode prog_21_method_2_code 13 = .ok (.invokevirtual 28, 3) := by decide +kernel
theorem dit_16 : decode prog_21_method_2_code 16 = .ok (.if_icmp .ge 72, 3) := by decide +kernel
theorem dit_19 : decode prog_21_method_2_code 19 = .ok (.aload_n 0, 1) := by decide +kernel
theorem dit_20 : decode prog_21_method_2_code 20 = .ok (.iload_n 1, 1) := by decide +kernel
theorem dit_21 : decode prog_21_method_2_code 21 = .ok (.invokevirtual 32, 3) := by decide +kernel
theorem dit_24 : decode prog_21_method_2_code 24 = .ok (.istore_n 2, 1) := by decide +kernel
theorem dit_25 : decode prog_21_method_2_code 25 = .ok (.iload_n 2, 1) := by decide +kernel
theorem dit_26 : decode prog_21_method_2_code 26 = .ok (.bipush 97, 2) := by decide +kernel
theorem dit_28 : decode prog_21_method_2_code 28 = .ok (.if_icmp .lt 9, 3) := by decide +kernel
theorem dit_31 : decode prog_21_method_2_code 31 = .ok (.iload_n 2, 1) := by decide +kernel
theorem dit_32 : decode prog_21_method_2_code 32 = .ok (.bipush 122, 2) := by decide +kernel
theorem dit_34 : decode prog_21_method_2_code 34 = .ok (.if_icmp .le 27, 3) := by decide +kernel
theorem dit_37 : decode prog_21_method_2_code 37 = .ok (.iload_n 2, 1) := by decide +kernel
theorem dit_38 : decode prog_21_method_2_code 38 = .ok (.bipush 65, 2) := by decide +kernel
theorem dit_40 : decode prog_21_method_2_code 40 = .ok (.if_icmp .lt 9, 3) := by decide +kernel
theorem dit_43 : decode prog_21_method_2_code 43 = .ok (.iload_n 2, 1) := by decide +kernel
theorem dit_44 : decode prog_21_method_2_code 44 = .ok (.bipush 90, 2) := by decide +kernel
theorem dit_46 : decode prog_21_method_2_code 46 = .ok (.if_icmp .le 15, 3) := by decide +kernel
theorem dit_49 : decode prog_21_method_2_code 49 = .ok (.iload_n 2, 1) := by decide +kernel
theorem dit_50 : decode prog_21_method_2_code 50 = .ok (.bipush 48, 2) := by decide +kernel
theorem dit_52 : decode prog_21_method_2_code 52 = .ok (.if_icmp .lt 13, 3) := by decide +kernel
theorem dit_55 : decode prog_21_method_2_code 55 = .ok (.iload_n 2, 1) := by decide +kernel
theorem dit_56 : decode prog_21_method_2_code 56 = .ok (.bipush 57, 2) := by decide +kernel
theorem dit_58 : decode prog_21_method_2_code 58 = .ok (.if_icmp .gt 7, 3) := by decide +kernel
theorem dit_61 : decode prog_21_method_2_code 61 = .ok (.iconst 1, 1) := by decide +kernel
theorem dit_62 : decode prog_21_method_2_code 62 = .ok (.goto 4, 3) := by decide +kernel
theorem dit_65 : decode prog_21_method_2_code 65 = .ok (.iconst 0, 1) := by decide +kernel
theorem dit_66 : decode prog_21_method_2_code 66 = .ok (.istore_n 3, 1) := by decide +kernel
theorem dit_67 : decode prog_21_method_2_code 67 = .ok (.iload_n 3, 1) := by decide +kernel
theorem dit_68 : decode prog_21_method_2_code 68 = .ok (.ifCond .ne 14, 3) := by decide +kernel
theorem dit_71 : decode prog_21_method_2_code 71 = .ok (.ldc 36, 2) := by decide +kernel
theorem dit_73 : decode prog_21_method_2_code 73 = .ok (.iload_n 2, 1) := by decide +kernel
theorem dit_74 : decode prog_21_method_2_code 74 = .ok (.invokevirtual 38, 3) := by decide +kernel
theorem dit_77 : decode prog_21_method_2_code 77 = .ok (.ifCond .ge 5, 3) := by decide +kernel
theorem dit_80 : decode prog_21_method_2_code 80 = .ok (.iconst 0, 1) := by decide +kernel
theorem dit_81 : decode prog_21_method_2_code 81 = .ok (.ireturn, 1) := by decide +kernel
theorem dit_82 : decode prog_21_method_2_code 82 = .ok (.iinc 1 1, 3) := by decide +kernel
theorem dit_85 : decode prog_21_method_2_code 85 = .ok (.goto (-74), 3) := by decide +kernel
theorem dit_88 : decode prog_21_method_2_code 88 = .ok (.iconst 1, 1) := by decide +kernel
theorem dit_89 : decode prog_21_method_2_code 89 = .ok (.ireturn, 1) := by decide +kernel
theorem pn_isTok : plainFor (⟨"com/example/permitd/permitd/http/Headers", "isToken", "(Ljava/lang/String;)Z"⟩ : MethodName) = true := by first | exact plainFor_of_name (by first | (simp [plainName, overriddenIn]; done) | decide +kernel) | exact Jvm.Free.JP.mathPlain rfl (by decide +kernel)
theorem ef_isTok (m : MethodId) (x0 : Addr) : entryFrame m #[(.ref x0)] 4 = mkF m 0 #[vR x0, .unset, .unset, .unset] [] := by first | (simp [entryFrame, mkF, argsToLocals, Value.category]; done) | rfl
def Q_isTok (Z : State) (ta : Addr) (cs : List Int32) (fm : Value) (h0 : Heap) (n0 : Nat) (v : Option Value) (h : Heap) (L : List Loc) : Prop := ∃ r, v = some (.int r) ∧ Fr n0 L ∧ Ext h0 h ∧ ((¬ cs = [] ∧ ∀ c ∈ cs, tokB c = true) → r = 1) ∧ (¬ (¬ cs = [] ∧ ∀ c ∈ cs, tokB c = true) → r = 0)
set_option maxRecDepth 65536 in
set_option maxHeartbeats 40000000 in
theorem rm_isTok (l : Launch) (Z : State) (a0 : Array Value) (hw : ∀ d ∈ tables_1, d.before a0 Z = true) (ws : List Jvm.Cond) (ta : Addr) (cs : List Int32) (fm : Value) (h0 : Heap) (n0 : Nat) (Z0 : n0 ≤ h0.size) (S1 : StrA Z h0 ta cs) (B : Bg Z h0 fm) (hl : cs.length ≤ 4) :
    MetFree l (⟨"com/example/permitd/permitd/http/Headers", "isToken", "(Ljava/lang/String;)Z"⟩ : MethodName) (head1 (Jvm.Cond.code (⟨"com/example/permitd/permitd/http/Headers", "isToken", "(Ljava/lang/String;)Z"⟩ : MethodName) prog_21_method_2_code 4 (some .boolean) :: ws) ({ frames := 5, cells := 8, slots := 256, locals := 66 } : Room)) (fun a U => a = #[(.ref ta)] ∧ Z.Warmed39 U.vm ∧ U.heap = h0 ∧ CHv Z EL U.vm h0) (fun _ _ _ _ _ => True) (fun _ U o U' => ∃ v L, o = .returned v ∧ Q_isTok Z ta cs fm h0 n0 v U'.heap L ∧ CHr Z EL U.vm U.heap U'.vm U'.heap ∧ ReturnedEndW U o U' L ({ frames := 5, cells := 8, slots := 256, locals := 66 } : Room).cells ({ frames := 5, cells := 8, slots := 256, locals := 66 } : Room).slots) := by
  refine MetFree.of_bodySF pn_isTok hisR ?_
  intro p e s m args below meth c s₁ Bd hml0 hP hK
  obtain ⟨rfl, hZ, hh, H0⟩ := hP
  have hx := Bd.exec
  have hby := Bd.bytes
  have hml : c.maxLocals = 4 := hml0
  have hown : s.vm.findClass "com/example/permitd/permitd/http/Headers" = some m.cls := findClass_of_methodNamed Bd.named
  have hnm := (name_of_methodNamed Bd.named Bd.method).1
  have X0 : Stand p l e ({ frames := 5, cells := 8, slots := 256, locals := 66 } : Room) (s.setVm s.vm) m #[(.ref ta)] below meth c s₁ [] 0 0 := Stand.of_body Bd
  have e0 : s₁.heap = h0 := by rw [← hh, Bd.state]; rfl
  have N0 := Fr.nil n0
  have hS0 : s.Since s.vm 0 := (State.WarmedH.refl s).since _
  have R0 : CHr Z EL s.vm s.heap s.vm h0 := by rw [hh]; exact CHr.refl H0
  have hZ : Z.Warmed39 (s.setVm s.vm).vm := hZ
  have hown : (s.setVm s.vm).vm.findClass "com/example/permitd/permitd/http/Headers" = some m.cls := hown
  have hEL := ew hw
  have wS : ∀ d ∈ Bundle.stringAtoms, d.before a0 Z = true := fun d hd => hw d (ws_lit d hd)
  show Rch p e below s₁ (entryFrame m #[(.ref ta)] 4) (fun U o => ∃ v L, o = .returned v ∧ Q_isTok Z ta cs fm h0 n0 v U.heap L ∧ CHr Z EL s.vm s.heap U.vm U.heap ∧ ReturnedEndW s o U L ({ frames := 5, cells := 8, slots := 256, locals := 66 } : Room).cells ({ frames := 5, cells := 8, slots := 256, locals := 66 } : Room).slots)
  refine Rch.cast (ef_isTok m ta) ?_
  show Rch p e below s₁ (mkF m 0 #[vR ta, .unset, .unset, .unset] []) _
  by_cases hne : cs = []
  · skip
    subst hne
    refine Rch.st (fun _ k => XS.aloadN X0.here hx rfl (hb hby dit_0) rfl rfl k) ?_
    show Rch p e below s₁ (mkF m 1 #[vR ta, .unset, .unset, .unset] [(.ref ta)]) _
    obtain ⟨cq194, kq194, q194a, q194b, q194c⟩ := isOf hZ e0 S1.exa
    obtain ⟨_, _, ⟨T194, L194, k194, n194⟩, -, X194, ⟨Lc194, hQ194, l194, y194, z194⟩, st194⟩ := X0.virtualBack hx (y := (⟨"java/lang/String", "isEmpty", "()Z"⟩ : MethodName)) (z := (⟨"java/lang/String", "isEmpty", "()Z"⟩ : MethodName)) hown (mvT hZ (wq hw 26 rfl)) (mvT hZ (wq hw 27 rfl)) (notFace_of_selects (args := #[]) (mvT hZ (wq hw 29 rfl))) (mvT hZ (wq hw 29 rfl)) (mvT hZ (wq hw 28 rfl)) (by decide) (empS (W := 0) hZ hw S1 (by decide) (by decide) (by decide)) q194a q194c (g := (mkF m 1 #[vR ta, .unset, .unset, .unset] [(.ref ta)])) rfl (by rw [hml]; rfl) (Steps.refl _) (argsL := []) (rest := []) (lenOf pd_5 rfl) rfl (by show 2 * 0 + _ ≤ _; exact Nat.le_of_eq rfl) (hb hby dit_1) (fun _ _ => ⟨rfl, e0, (by decide : 0 + 0 ≤ _), (by decide : 0 + 0 ≤ _)⟩)
    dsimp only [Pt.U, Pt.locs, Pt.cells, Pt.slots] at X194 l194 y194 z194 st194 hQ194
    subst l194 y194 z194
    obtain ⟨rfl, hL194, e194⟩ := hQ194
    subst hL194
    have Nq194 := Fr.nil n0
    have N194 := Fr.app N0 Nq194
    refine Rch.go st194 ?_
    show Rch p e below T194 (mkF m 4 #[vR ta, .unset, .unset, .unset] [(.int (1 : Int32))]) _
    refine Rch.st (fun _ k => XS.ifNo X194.here hx rfl (hb hby dit_4) rfl (by decide : ifCond.holds .eq (1 : Int32) = false) k) ?_
    refine Rch.st (fun _ k => XS.iconst X194.here hx rfl (hb hby dit_7)  k) ?_
    show Rch p e below T194 (mkF m 8 #[vR ta, .unset, .unset, .unset] [(.int (0 : Int32))]) _
    exact Rch.finW (Q := Q_isTok Z ta [] fm h0 n0) X194 hZ hEL hS0 (by rw [e194]; exact (Nat.zero_le _)) e194 R0 (v := some (.int (0 : Int32))) (fun h => by rw [Bd.returns] at h; cases h) (BodyLoose.notSynchronized Bd) (fun fs hr => retN X194 hx (t := .boolean) Bd.returns (by simp) (hb hby dit_8) hr) (by rw [e194]; exact ⟨0, rfl, N194, Ext.rf, fun q => absurd rfl q.1, fun _ => rfl⟩) (by decide) (by decide)
  have it4 : ∀ (T163 : State) (lc163 : List Loc) (h163 : Heap) (vm163 : Vm) (k0_163 : Nat) (sc sd : Int32), Stand p l e ({ frames := 5, cells := 8, slots := 256, locals := 66 } : Room) (s.setVm vm163) m #[(.ref ta)] below meth c T163 lc163 8 256 → T163.heap = h163 → Fr n0 lc163 → Ext h0 h163 → s.Since vm163 k0_163 → k0_163 ≤ h163.size → Z.Warmed39 (s.setVm vm163).vm → (s.setVm vm163).vm.findClass "com/example/permitd/permitd/http/Headers" = some m.cls → CHr Z EL s.vm s.heap vm163 h163 → (4 ≤ cs.length) → (∀ j, j < 4 → tokB (cs.getD j 0) = true) → Rch p e below T163 (mkF m 11 #[vR ta, vI (4 : Int32), vI sc, vI sd] []) (fun U o => ∃ v L, o = .returned v ∧ Q_isTok Z ta cs fm h0 n0 v U.heap L ∧ CHr Z EL s.vm s.heap U.vm U.heap ∧ ReturnedEndW s o U L ({ frames := 5, cells := 8, slots := 256, locals := 66 } : Room).cells ({ frames := 5, cells := 8, slots := 256, locals := 66 } : Room).slots) := by
    intro T163 lc163 h163 vm163 k0_163 sc sd X163 e163 N163 Ex163 hS163 hk163 hZ163 hown163 R163 hi ht
    show Rch p e below T163 (mkF m 11 #[vR ta, vI (4 : Int32), vI sc, vI sd] []) _
    refine Rch.st (fun _ k => XS.iloadN X163.here hx rfl (hb hby dit_11) rfl k) ?_
    refine Rch.st (fun _ k => XS.aloadN X163.here hx rfl (hb hby dit_12) rfl rfl k) ?_
    show Rch p e below T163 (mkF m 13 #[vR ta, vI (4 : Int32), vI sc, vI sd] [(.ref ta), (.int (4 : Int32))]) _
    obtain ⟨cq164, kq164, q164a, q164b, q164c⟩ := isOf hZ163 e163 ((S1.ext Ex163)).exa
    obtain ⟨_, _, ⟨T164, L164, k164, n164⟩, -, X164, ⟨Lc164, hQ164, l164, y164, z164⟩, st164⟩ := X163.virtualBack hx (y := (⟨"java/lang/String", "length", "()I"⟩ : MethodName)) (z := (⟨"java/lang/String", "length", "()I"⟩ : MethodName)) hown163 (mvT hZ163 (wq hw 46 rfl)) (mvT hZ163 (wq hw 47 rfl)) (notFace_of_selects (args := #[]) (mvT hZ163 (wq hw 49 rfl))) (mvT hZ163 (wq hw 49 rfl)) (mvT hZ163 (wq hw 48 rfl)) (by decide) (lenS (W := 1) hZ163 hw (S1.ext Ex163) (B.ext Ex163).1 (by omega) (by decide) (by decide)) q164a q164c (g := (mkF m 13 #[vR ta, vI (4 : Int32), vI sc, vI sd] [(.ref ta), (.int (4 : Int32))])) rfl (by rw [hml]; rfl) (Steps.refl _) (argsL := []) (rest := [(.int (4 : Int32))]) (lenOf pd_16 rfl) rfl (by show 2 * 0 + _ ≤ _; exact Nat.le_of_eq rfl) (hb hby dit_13) (fun _ _ => ⟨rfl, e163, (by decide : 8 + 0 ≤ _), (by decide : 256 + 0 ≤ _)⟩)
    dsimp only [Pt.U, Pt.locs, Pt.cells, Pt.slots] at X164 l164 y164 z164 st164 hQ164
    subst l164 y164 z164
    obtain ⟨rfl, hL164, e164⟩ := hQ164
    subst hL164
    have Nq164 := Fr.nil n0
    have N164 := Fr.app N163 Nq164
    refine Rch.go st164 ?_
    show Rch p e below T164 (mkF m 16 #[vR ta, vI (4 : Int32), vI sc, vI sd] [(.int (Int32.ofNat cs.length)), (.int (4 : Int32))]) _
    have hge : cs.length ≤ 4 := hl
    have hge' : ¬ (4 : Int32) < Int32.ofNat cs.length := ofN_le hge (by decide)
    refine Rch.st (fun _ k => XS.icmpYes X164.here hx rfl (pc0 := 16) (pc' := 88) rfl (hb hby dit_16) rfl (flt hge').2.1 (by decide) (by decide) k) ?_
    refine Rch.st (fun _ k => XS.iconst X164.here hx rfl (hb hby dit_88)  k) ?_
    show Rch p e below T164 (mkF m 89 #[vR ta, vI (4 : Int32), vI sc, vI sd] [(.int (1 : Int32))]) _
    have hyes : (¬ cs = [] ∧ ∀ c ∈ cs, tokB c = true) := ⟨hne, fun c hc => by
      obtain ⟨j, hj, rfl⟩ := List.getElem_of_mem hc
      have := ht j (by omega)
      rwa [show cs.getD j 0 = cs[j] by simp [List.getD_eq_getElem?_getD, hj]] at this⟩
    exact Rch.finW (Q := Q_isTok Z ta cs fm h0 n0) X164 hZ163 hEL hS163 (by rw [e164]; exact hk163) e164 R163 (v := some (.int (1 : Int32))) (fun h => by rw [Bd.returns] at h; cases h) (BodyLoose.notSynchronized Bd) (fun fs hr => retN X164 hx (t := .boolean) Bd.returns (by simp) (hb hby dit_89) hr) (by rw [e164]; exact ⟨1, rfl, N164, Ex163, fun _ => rfl, fun q => absurd hyes q⟩) (by decide) (by decide)
  have it3 : ∀ (T165 : State) (lc165 : List Loc) (h165 : Heap) (vm165 : Vm) (k0_165 : Nat) (sc sd : Int32), Stand p l e ({ frames := 5, cells := 8, slots := 256, locals := 66 } : Room) (s.setVm vm165) m #[(.ref ta)] below meth c T165 lc165 6 192 → T165.heap = h165 → Fr n0 lc165 → Ext h0 h165 → s.Since vm165 k0_165 → k0_165 ≤ h165.size → Z.Warmed39 (s.setVm vm165).vm → (s.setVm vm165).vm.findClass "com/example/permitd/permitd/http/Headers" = some m.cls → CHr Z EL s.vm s.heap vm165 h165 → (3 ≤ cs.length) → (∀ j, j < 3 → tokB (cs.getD j 0) = true) → Rch p e below T165 (mkF m 11 #[vR ta, vI (3 : Int32), vI sc, vI sd] []) (fun U o => ∃ v L, o = .returned v ∧ Q_isTok Z ta cs fm h0 n0 v U.heap L ∧ CHr Z EL s.vm s.heap U.vm U.heap ∧ ReturnedEndW s o U L ({ frames := 5, cells := 8, slots := 256, locals := 66 } : Room).cells ({ frames := 5, cells := 8, slots := 256, locals := 66 } : Room).slots) := by
    intro T165 lc165 h165 vm165 k0_165 sc sd X165 e165 N165 Ex165 hS165 hk165 hZ165 hown165 R165 hi ht
    show Rch p e below T165 (mkF m 11 #[vR ta, vI (3 : Int32), vI sc, vI sd] []) _
    refine Rch.st (fun _ k => XS.iloadN X165.here hx rfl (hb hby dit_11) rfl k) ?_
    refine Rch.st (fun _ k => XS.aloadN X165.here hx rfl (hb hby dit_12) rfl rfl k) ?_
    show Rch p e below T165 (mkF m 13 #[vR ta, vI (3 : Int32), vI sc, vI sd] [(.ref ta), (.int (3 : Int32))]) _
    obtain ⟨cq166, kq166, q166a, q166b, q166c⟩ := isOf hZ165 e165 ((S1.ext Ex165)).exa
    obtain ⟨_, _, ⟨T166, L166, k166, n166⟩, -, X166, ⟨Lc166, hQ166, l166, y166, z166⟩, st166⟩ := X165.virtualBack hx (y := (⟨"java/lang/String", "length", "()I"⟩ : MethodName)) (z := (⟨"java/lang/String", "length", "()I"⟩ : MethodName)) hown165 (mvT hZ165 (wq hw 46 rfl)) (mvT hZ165 (wq hw 47 rfl)) (notFace_of_selects (args := #[]) (mvT hZ165 (wq hw 49 rfl))) (mvT hZ165 (wq hw 49 rfl)) (mvT hZ165 (wq hw 48 rfl)) (by decide) (lenS (W := 1) hZ165 hw (S1.ext Ex165) (B.ext Ex165).1 (by omega) (by decide) (by decide)) q166a q166c (g := (mkF m 13 #[vR ta, vI (3 : Int32), vI sc, vI sd] [(.ref ta), (.int (3 : Int32))])) rfl (by rw [hml]; rfl) (Steps.refl _) (argsL := []) (rest := [(.int (3 : Int32))]) (lenOf pd_16 rfl) rfl (by show 2 * 0 + _ ≤ _; exact Nat.le_of_eq rfl) (hb hby dit_13) (fun _ _ => ⟨rfl, e165, (by decide : 6 + 0 ≤ _), (by decide : 192 + 0 ≤ _)⟩)
    dsimp only [Pt.U, Pt.locs, Pt.cells, Pt.slots] at X166 l166 y166 z166 st166 hQ166
    subst l166 y166 z166
    obtain ⟨rfl, hL166, e166⟩ := hQ166
    subst hL166
    have Nq166 := Fr.nil n0
    have N166 := Fr.app N165 Nq166
    refine Rch.go st166 ?_
    show Rch p e below T166 (mkF m 16 #[vR ta, vI (3 : Int32), vI sc, vI sd] [(.int (Int32.ofNat cs.length)), (.int (3 : Int32))]) _
    by_cases hlt : 3 < cs.length
    · skip
      have hlt' : (3 : Int32) < Int32.ofNat cs.length := ofN_lt hlt (by omega)
      refine Rch.st (fun _ k => XS.icmpNo X166.here hx rfl (hb hby dit_16) rfl (tlt hlt').2.1 k) ?_
      refine Rch.st (fun _ k => XS.aloadN X166.here hx rfl (hb hby dit_19) rfl rfl k) ?_
      show Rch p e below T166 (mkF m 20 #[vR ta, vI (3 : Int32), vI sc, vI sd] [(.ref ta)]) _
      refine Rch.st (fun _ k => XS.iloadN X166.here hx rfl (hb hby dit_20) rfl k) ?_
      show Rch p e below T166 (mkF m 21 #[vR ta, vI (3 : Int32), vI sc, vI sd] [(.int (3 : Int32)), (.ref ta)]) _
      obtain ⟨cq167, kq167, q167a, q167b, q167c⟩ := isOf hZ165 e166 ((S1.ext Ex165)).exa
      obtain ⟨_, _, ⟨T167, L167, k167, n167⟩, -, X167, ⟨Lc167, hQ167, l167, y167, z167⟩, st167⟩ := X166.virtualBack hx (y := (⟨"java/lang/String", "charAt", "(I)C"⟩ : MethodName)) (z := (⟨"java/lang/String", "charAt", "(I)C"⟩ : MethodName)) hown165 (mvT hZ165 (wq hw 56 rfl)) (mvT hZ165 (wq hw 57 rfl)) (notFace_of_selects (args := #[]) (mvT hZ165 (wq hw 59 rfl))) (mvT hZ165 (wq hw 59 rfl)) (mvT hZ165 (wq hw 58 rfl)) (by decide) (chS (W := 0) hZ165 hw (S1.ext Ex165) (B.ext Ex165) 3 hlt (by omega) n0 (Nat.le_trans Z0 Ex165.1) (by decide) (by decide)) q167a q167c (g := (mkF m 21 #[vR ta, vI (3 : Int32), vI sc, vI sd] [(.int (3 : Int32)), (.ref ta)])) rfl (by rw [hml]; rfl) (Steps.refl _) (argsL := [(.int (3 : Int32))]) (rest := []) (lenOf pd_17 rfl) rfl (by show 2 * 0 + _ ≤ _; exact Nat.le_of_eq rfl) (hb hby dit_21) (fun _ _ => ⟨rfl, e166, (by decide : 6 + 0 ≤ _), (by decide : 192 + 0 ≤ _)⟩)
      dsimp only [Pt.U, Pt.locs, Pt.cells, Pt.slots] at X167 l167 y167 z167 st167 hQ167
      subst l167 y167 z167
      obtain ⟨rfl, Nq167, e167⟩ := hQ167
      have N167 := Fr.app N166 Nq167
      refine Rch.go st167 ?_
      show Rch p e below T167 (mkF m 24 #[vR ta, vI (3 : Int32), vI sc, vI sd] [(.int (cs.getD 3 0))]) _
      have hcm : ¬ cs.getD 3 0 < 0 := by
        have e : cs.getD 3 0 = cs[3] := by simp [List.getD_eq_getElem?_getD, hlt]
        rw [e]; exact (S1.bd _ (List.getElem_mem _)).1
      generalize hc : cs.getD 3 0 = cc at hcm ⊢
      show Rch p e below T167 (mkF m 24 #[vR ta, vI (3 : Int32), vI sc, vI sd] [(.int cc)]) _
      refine Rch.st (fun _ k => XS.istoreN X167.here hx rfl (hb hby dit_24) rfl (l' := #[vR ta, vI (3 : Int32), vI cc, vI sd]) rfl k) ?_
      refine Rch.st (fun _ k => XS.iloadN X167.here hx rfl (hb hby dit_25) rfl k) ?_
      show Rch p e below T167 (mkF m 26 #[vR ta, vI (3 : Int32), vI cc, vI sd] [(.int cc)]) _
      refine Rch.st (fun _ k => XS.bipush X167.here hx rfl (hb hby dit_26)  k) ?_
      show Rch p e below T167 (mkF m 28 #[vR ta, vI (3 : Int32), vI cc, vI sd] [(.int (97 : Int32)), (.int cc)]) _
      have t61 : ∀ (u : Int32), alB cc = true → Rch p e below T167 (mkF m 61 #[vR ta, vI (3 : Int32), vI cc, vI sd] []) (fun U o => ∃ v L, o = .returned v ∧ Q_isTok Z ta cs fm h0 n0 v U.heap L ∧ CHr Z EL s.vm s.heap U.vm U.heap ∧ ReturnedEndW s o U L ({ frames := 5, cells := 8, slots := 256, locals := 66 } : Room).cells ({ frames := 5, cells := 8, slots := 256, locals := 66 } : Room).slots) := by
        intro u ha
        show Rch p e below T167 (mkF m 61 #[vR ta, vI (3 : Int32), vI cc, vI sd] []) _
        refine Rch.st (fun _ k => XS.iconst X167.here hx rfl (hb hby dit_61)  k) ?_
        refine Rch.st (fun _ k => XS.goto X167.here hx rfl (pc0 := 62) (pc' := 66) rfl (hb hby dit_62) (by decide) (by decide) k) ?_
        show Rch p e below T167 (mkF m 66 #[vR ta, vI (3 : Int32), vI cc, vI sd] [(.int (1 : Int32))]) _
        refine Rch.st (fun _ k => XS.istoreN X167.here hx rfl (hb hby dit_66) rfl (l' := #[vR ta, vI (3 : Int32), vI cc, vI (1 : Int32)]) rfl k) ?_
        refine Rch.st (fun _ k => XS.iloadN X167.here hx rfl (hb hby dit_67) rfl k) ?_
        show Rch p e below T167 (mkF m 68 #[vR ta, vI (3 : Int32), vI cc, vI (1 : Int32)] [(.int (1 : Int32))]) _
        refine Rch.st (fun _ k => XS.ifYes X167.here hx rfl (pc0 := 68) (pc' := 82) rfl (hb hby dit_68) rfl (by decide : ifCond.holds .ne (1 : Int32) = true) (by decide) (by decide) k) ?_
        refine Rch.st (fun _ k => XS.iinc X167.here hx rfl (hb hby dit_82) rfl (l' := #[vR ta, vI (4 : Int32), vI cc, vI (1 : Int32)]) rfl k) ?_
        show Rch p e below T167 (mkF m 85 #[vR ta, vI (4 : Int32), vI cc, vI (1 : Int32)] []) _
        refine Rch.st (fun _ k => XS.goto X167.here hx rfl (pc0 := 85) (pc' := 11) rfl (hb hby dit_85) (by decide) (by decide) k) ?_
        show Rch p e below T167 (mkF m 11 #[vR ta, vI (4 : Int32), vI cc, vI (1 : Int32)] []) _
        exact it4 _ _ _ _ _ _ _ (X167.mono (by decide) (by decide)) e167 N167 Ex165 hS165 hk165 hZ165 hown165 R165 hlt (fun j hj => (Nat.lt_or_eq_of_le (Nat.le_of_lt_succ hj)).elim (ht j) (fun q => by subst q; rw [hc]; exact tok_al ha))
      have t65 : ∀ (u : Int32), ¬ alB cc = true → Rch p e below T167 (mkF m 65 #[vR ta, vI (3 : Int32), vI cc, vI sd] []) (fun U o => ∃ v L, o = .returned v ∧ Q_isTok Z ta cs fm h0 n0 v U.heap L ∧ CHr Z EL s.vm s.heap U.vm U.heap ∧ ReturnedEndW s o U L ({ frames := 5, cells := 8, slots := 256, locals := 66 } : Room).cells ({ frames := 5, cells := 8, slots := 256, locals := 66 } : Room).slots) := by
        intro u ha
        show Rch p e below T167 (mkF m 65 #[vR ta, vI (3 : Int32), vI cc, vI sd] []) _
        refine Rch.st (fun _ k => XS.iconst X167.here hx rfl (hb hby dit_65)  k) ?_
        refine Rch.st (fun _ k => XS.istoreN X167.here hx rfl (hb hby dit_66) rfl (l' := #[vR ta, vI (3 : Int32), vI cc, vI (0 : Int32)]) rfl k) ?_
        show Rch p e below T167 (mkF m 67 #[vR ta, vI (3 : Int32), vI cc, vI (0 : Int32)] []) _
        refine Rch.st (fun _ k => XS.iloadN X167.here hx rfl (hb hby dit_67) rfl k) ?_
        refine Rch.st (fun _ k => XS.ifNo X167.here hx rfl (hb hby dit_68) rfl (by decide : ifCond.holds .ne (0 : Int32) = false) k) ?_
        show Rch p e below T167 (mkF m 71 #[vR ta, vI (3 : Int32), vI cc, vI (0 : Int32)] []) _
        obtain ⟨a168, T168, h168, kk168, b168, kb168, X168, e168, E168, hS168, hk168, hZ168, hown168, EX168, CO168, VA168, AR168, la168, lb168, CR168, LT168, SF168, st168⟩ := ldcCH X167 hx hZ165 hown165 (wq hw 78 rfl) wS e167 hS165 hk165 hEL (by simp [EL]) R165.1 (vs := ([33, 35, 36, 37, 38, 39, 42, 43, 45, 46, 94, 95, 96, 124, 126] : List Int32).map (fun c => Value.int c.toInt8.toInt32)) (z := (15 : Int32)) ⟨by decide, by decide⟩ (by decide) rfl (g := (mkF m 71 #[vR ta, vI (3 : Int32), vI cc, vI (0 : Int32)] [])) rfl (hb hby dit_71) (n := 60) (by decide) (by decide) (by decide) (by decide)
        have Ex169 : Ext h0 h168 := Ex165.tr E168
        have Ex170 : Ext h165 h168 := E168
        have R168 := R165.trans CR168
        have Q168 : StrA Z h168 a168 ([33, 35, 36, 37, 38, 39, 42, 43, 45, 46, 94, 95, 96, 124, 126] : List Int32) := strOf (n := 15) rfl rfl (by decide) EX168 VA168 CO168 (by rw [List.map_map]; exact AR168)
        refine Rch.st st168 ?_
        show Rch p e below T168 (mkF m 73 #[vR ta, vI (3 : Int32), vI cc, vI (0 : Int32)] [(.ref a168)]) _
        refine Rch.st (fun _ k => XS.iloadN X168.here hx rfl (hb hby dit_73) rfl k) ?_
        show Rch p e below T168 (mkF m 74 #[vR ta, vI (3 : Int32), vI cc, vI (0 : Int32)] [(.int cc), (.ref a168)]) _
        obtain ⟨cq171, kq171, q171a, q171b, q171c⟩ := isOf hZ168 e168 EX168
        obtain ⟨_, _, ⟨T171, L171, k171, n171⟩, -, X171, ⟨Lc171, hQ171, l171, y171, z171⟩, st171⟩ := X168.virtualBack hx (y := (⟨"java/lang/String", "indexOf", "(I)I"⟩ : MethodName)) (z := (⟨"java/lang/String", "indexOf", "(I)I"⟩ : MethodName)) hown168 (mvT hZ168 (wq hw 79 rfl)) (mvT hZ168 (wq hw 80 rfl)) (notFace_of_selects (args := #[]) (mvT hZ168 (wq hw 82 rfl))) (mvT hZ168 (wq hw 82 rfl)) (mvT hZ168 (wq hw 81 rfl)) (by decide) (backOf (W := 0) (rm_idx1 l Z a0 hw [] a168 b168 kb168 cc h168 n0 (Nat.le_trans Z0 Ex169.1) (B.ext Ex169).1 EX168 VA168 CO168 Q168 hcm AR168) hZ168 (wq hw 83 rfl) (wq hw 3 rfl) (by decide) (by decide)) q171a q171c (g := (mkF m 74 #[vR ta, vI (3 : Int32), vI cc, vI (0 : Int32)] [(.int cc), (.ref a168)])) rfl (by rw [hml]; rfl) (Steps.refl _) (argsL := [(.int cc)]) (rest := []) (lenOf pd_7 rfl) rfl (by show 2 * 0 + _ ≤ _; exact Nat.le_of_eq rfl) (hb hby dit_74) (fun _ _ => ⟨rfl, e168, (by decide : 8 + 0 ≤ _), (by decide : 256 + 0 ≤ _)⟩)
        dsimp only [Pt.U, Pt.locs, Pt.cells, Pt.slots] at X171 l171 y171 z171 st171 hQ171
        subst l171 y171 z171
        obtain ⟨r171, rfl, Nq171, e171, u171, v171⟩ := hQ171
        have N171 := Fr.app N167 Nq171
        refine Rch.go st171 ?_
        show Rch p e below T171 (mkF m 77 #[vR ta, vI (3 : Int32), vI cc, vI (0 : Int32)] [(.int r171)]) _
        by_cases hs : symB cc = true
        · skip
          have hr := u171 hs
          refine Rch.st (fun _ k => XS.ifYes X171.here hx rfl (pc0 := 77) (pc' := 82) rfl (hb hby dit_77) rfl ((if0 _ _).trans (flt hr).2.1) (by decide) (by decide) k) ?_
          refine Rch.st (fun _ k => XS.iinc X171.here hx rfl (hb hby dit_82) rfl (l' := #[vR ta, vI (4 : Int32), vI cc, vI (0 : Int32)]) rfl k) ?_
          show Rch p e below T171 (mkF m 85 #[vR ta, vI (4 : Int32), vI cc, vI (0 : Int32)] []) _
          refine Rch.st (fun _ k => XS.goto X171.here hx rfl (pc0 := 85) (pc' := 11) rfl (hb hby dit_85) (by decide) (by decide) k) ?_
          show Rch p e below T171 (mkF m 11 #[vR ta, vI (4 : Int32), vI cc, vI (0 : Int32)] []) _
          exact it4 _ _ _ _ _ _ _ X171 e171 N171 Ex169 hS168 hk168 hZ168 hown168 R168 hlt (fun j hj => (Nat.lt_or_eq_of_le (Nat.le_of_lt_succ hj)).elim (ht j) (fun q => by subst q; rw [hc]; exact tok_sy hs))
        · skip
          have hr := v171 hs
          refine Rch.st (fun _ k => XS.ifNo X171.here hx rfl (hb hby dit_77) rfl ((if0 _ _).trans (tlt hr).2.1) k) ?_
          refine Rch.st (fun _ k => XS.iconst X171.here hx rfl (hb hby dit_80)  k) ?_
          show Rch p e below T171 (mkF m 81 #[vR ta, vI (3 : Int32), vI cc, vI (0 : Int32)] [(.int (0 : Int32))]) _
          have hno : ¬ (¬ cs = [] ∧ ∀ c ∈ cs, tokB c = true) := fun q => by
            have z := q.2 (cs.getD 3 0) (by rw [show cs.getD 3 0 = cs[3] by simp [List.getD_eq_getElem?_getD, hlt]]; exact List.getElem_mem _)
            rw [hc] at z; exact tok_no ha hs z
          exact Rch.finW (Q := Q_isTok Z ta cs fm h0 n0) X171 hZ168 hEL hS168 (by rw [e171]; exact hk168) e171 R168 (v := some (.int (0 : Int32))) (fun h => by rw [Bd.returns] at h; cases h) (BodyLoose.notSynchronized Bd) (fun fs hr => retN X171 hx (t := .boolean) Bd.returns (by simp) (hb hby dit_81) hr) (by rw [e171]; exact ⟨0, rfl, N171, Ex169, fun q => absurd q hno, fun _ => rfl⟩) (by decide) (by decide)
      have t49 : ∀ (u : Int32), cc < (97 : Int32) ∨ (122 : Int32) < cc → cc < (65 : Int32) ∨ (90 : Int32) < cc → Rch p e below T167 (mkF m 49 #[vR ta, vI (3 : Int32), vI cc, vI sd] []) (fun U o => ∃ v L, o = .returned v ∧ Q_isTok Z ta cs fm h0 n0 v U.heap L ∧ CHr Z EL s.vm s.heap U.vm U.heap ∧ ReturnedEndW s o U L ({ frames := 5, cells := 8, slots := 256, locals := 66 } : Room).cells ({ frames := 5, cells := 8, slots := 256, locals := 66 } : Room).slots) := by
        intro u z1 z2
        show Rch p e below T167 (mkF m 49 #[vR ta, vI (3 : Int32), vI cc, vI sd] []) _
        refine Rch.st (fun _ k => XS.iloadN X167.here hx rfl (hb hby dit_49) rfl k) ?_
        refine Rch.st (fun _ k => XS.bipush X167.here hx rfl (hb hby dit_50)  k) ?_
        show Rch p e below T167 (mkF m 52 #[vR ta, vI (3 : Int32), vI cc, vI sd] [(.int (48 : Int32)), (.int cc)]) _
        by_cases g1 : cc < (48 : Int32)
        · skip
          refine Rch.st (fun _ k => XS.icmpYes X167.here hx rfl (pc0 := 52) (pc' := 65) rfl (hb hby dit_52) rfl (tlt g1).1 (by decide) (by decide) k) ?_
          show Rch p e below T167 (mkF m 65 #[vR ta, vI (3 : Int32), vI cc, vI sd] []) _
          exact t65 0 (al_no z1 z2 (Or.inl g1))
        · skip
          refine Rch.st (fun _ k => XS.icmpNo X167.here hx rfl (hb hby dit_52) rfl (flt g1).1 k) ?_
          refine Rch.st (fun _ k => XS.iloadN X167.here hx rfl (hb hby dit_55) rfl k) ?_
          show Rch p e below T167 (mkF m 56 #[vR ta, vI (3 : Int32), vI cc, vI sd] [(.int cc)]) _
          refine Rch.st (fun _ k => XS.bipush X167.here hx rfl (hb hby dit_56)  k) ?_
          show Rch p e below T167 (mkF m 58 #[vR ta, vI (3 : Int32), vI cc, vI sd] [(.int (57 : Int32)), (.int cc)]) _
          by_cases g2 : (57 : Int32) < cc
          · skip
            refine Rch.st (fun _ k => XS.icmpYes X167.here hx rfl (pc0 := 58) (pc' := 65) rfl (hb hby dit_58) rfl (tlt g2).2.2.1 (by decide) (by decide) k) ?_
            show Rch p e below T167 (mkF m 65 #[vR ta, vI (3 : Int32), vI cc, vI sd] []) _
            exact t65 0 (al_no z1 z2 (Or.inr g2))
          · skip
            refine Rch.st (fun _ k => XS.icmpNo X167.here hx rfl (hb hby dit_58) rfl (flt g2).2.2.1 k) ?_
            show Rch p e below T167 (mkF m 61 #[vR ta, vI (3 : Int32), vI cc, vI sd] []) _
            exact t61 0 (al_3 g1 g2)
      have t37 : ∀ (u : Int32), cc < (97 : Int32) ∨ (122 : Int32) < cc → Rch p e below T167 (mkF m 37 #[vR ta, vI (3 : Int32), vI cc, vI sd] []) (fun U o => ∃ v L, o = .returned v ∧ Q_isTok Z ta cs fm h0 n0 v U.heap L ∧ CHr Z EL s.vm s.heap U.vm U.heap ∧ ReturnedEndW s o U L ({ frames := 5, cells := 8, slots := 256, locals := 66 } : Room).cells ({ frames := 5, cells := 8, slots := 256, locals := 66 } : Room).slots) := by
        intro u z1
        show Rch p e below T167 (mkF m 37 #[vR ta, vI (3 : Int32), vI cc, vI sd] []) _
        refine Rch.st (fun _ k => XS.iloadN X167.here hx rfl (hb hby dit_37) rfl k) ?_
        refine Rch.st (fun _ k => XS.bipush X167.here hx rfl (hb hby dit_38)  k) ?_
        show Rch p e below T167 (mkF m 40 #[vR ta, vI (3 : Int32), vI cc, vI sd] [(.int (65 : Int32)), (.int cc)]) _
        by_cases g1 : cc < (65 : Int32)
        · skip
          refine Rch.st (fun _ k => XS.icmpYes X167.here hx rfl (pc0 := 40) (pc' := 49) rfl (hb hby dit_40) rfl (tlt g1).1 (by decide) (by decide) k) ?_
          show Rch p e below T167 (mkF m 49 #[vR ta, vI (3 : Int32), vI cc, vI sd] []) _
          exact t49 0 z1 (Or.inl g1)
        · skip
          refine Rch.st (fun _ k => XS.icmpNo X167.here hx rfl (hb hby dit_40) rfl (flt g1).1 k) ?_
          refine Rch.st (fun _ k => XS.iloadN X167.here hx rfl (hb hby dit_43) rfl k) ?_
          show Rch p e below T167 (mkF m 44 #[vR ta, vI (3 : Int32), vI cc, vI sd] [(.int cc)]) _
          refine Rch.st (fun _ k => XS.bipush X167.here hx rfl (hb hby dit_44)  k) ?_
          show Rch p e below T167 (mkF m 46 #[vR ta, vI (3 : Int32), vI cc, vI sd] [(.int (90 : Int32)), (.int cc)]) _
          by_cases g2 : (90 : Int32) < cc
          · skip
            refine Rch.st (fun _ k => XS.icmpNo X167.here hx rfl (hb hby dit_46) rfl (tlt g2).2.2.2 k) ?_
            show Rch p e below T167 (mkF m 49 #[vR ta, vI (3 : Int32), vI cc, vI sd] []) _
            exact t49 0 z1 (Or.inr g2)
          · skip
            refine Rch.st (fun _ k => XS.icmpYes X167.here hx rfl (pc0 := 46) (pc' := 61) rfl (hb hby dit_46) rfl (flt g2).2.2.2 (by decide) (by decide) k) ?_
            show Rch p e below T167 (mkF m 61 #[vR ta, vI (3 : Int32), vI cc, vI sd] []) _
            exact t61 0 (al_2 g1 g2)
      by_cases g1 : cc < (97 : Int32)
      · skip
        refine Rch.st (fun _ k => XS.icmpYes X167.here hx rfl (pc0 := 28) (pc' := 37) rfl (hb hby dit_28) rfl (tlt g1).1 (by decide) (by decide) k) ?_
        show Rch p e below T167 (mkF m 37 #[vR ta, vI (3 : Int32), vI cc, vI sd] []) _
        exact t37 0 (Or.inl g1)
      · skip
        refine Rch.st (fun _ k => XS.icmpNo X167.here hx rfl (hb hby dit_28) rfl (flt g1).1 k) ?_
        refine Rch.st (fun _ k => XS.iloadN X167.here hx rfl (hb hby dit_31) rfl k) ?_
        show Rch p e below T167 (mkF m 32 #[vR ta, vI (3 : Int32), vI cc, vI sd] [(.int cc)]) _
        refine Rch.st (fun _ k => XS.bipush X167.here hx rfl (hb hby dit_32)  k) ?_
        show Rch p e below T167 (mkF m 34 #[vR ta, vI (3 : Int32), vI cc, vI sd] [(.int (122 : Int32)), (.int cc)]) _
        by_cases g2 : (122 : Int32) < cc
        · skip
          refine Rch.st (fun _ k => XS.icmpNo X167.here hx rfl (hb hby dit_34) rfl (tlt g2).2.2.2 k) ?_
          show Rch p e below T167 (mkF m 37 #[vR ta, vI (3 : Int32), vI cc, vI sd] []) _
          exact t37 0 (Or.inr g2)
        · skip
          refine Rch.st (fun _ k => XS.icmpYes X167.here hx rfl (pc0 := 34) (pc' := 61) rfl (hb hby dit_34) rfl (flt g2).2.2.2 (by decide) (by decide) k) ?_
          show Rch p e below T167 (mkF m 61 #[vR ta, vI (3 : Int32), vI cc, vI sd] []) _
          exact t61 0 (al_1 g1 g2)
    · skip
      have hge : cs.length ≤ 3 := Nat.le_of_not_lt hlt
      have hge' : ¬ (3 : Int32) < Int32.ofNat cs.length := ofN_le hge (by decide)
      refine Rch.st (fun _ k => XS.icmpYes X166.here hx rfl (pc0 := 16) (pc' := 88) rfl (hb hby dit_16) rfl (flt hge').2.1 (by decide) (by decide) k) ?_
      refine Rch.st (fun _ k => XS.iconst X166.here hx rfl (hb hby dit_88)  k) ?_
      show Rch p e below T166 (mkF m 89 #[vR ta, vI (3 : Int32), vI sc, vI sd] [(.int (1 : Int32))]) _
      have hyes : (¬ cs = [] ∧ ∀ c ∈ cs, tokB c = true) := ⟨hne, fun c hc => by
        obtain ⟨j, hj, rfl⟩ := List.getElem_of_mem hc
        have := ht j (by omega)
        rwa [show cs.getD j 0 = cs[j] by simp [List.getD_eq_getElem?_getD, hj]] at this⟩
      exact Rch.finW (Q := Q_isTok Z ta cs fm h0 n0) X166 hZ165 hEL hS165 (by rw [e166]; exact hk165) e166 R165 (v := some (.int (1 : Int32))) (fun h => by rw [Bd.returns] at h; cases h) (BodyLoose.notSynchronized Bd) (fun fs hr => retN X166 hx (t := .boolean) Bd.returns (by simp) (hb hby dit_89) hr) (by rw [e166]; exact ⟨1, rfl, N166, Ex165, fun _ => rfl, fun q => absurd hyes q⟩) (by decide) (by decide)
  have it2 : ∀ (T172 : State) (lc172 : List Loc) (h172 : Heap) (vm172 : Vm) (k0_172 : Nat) (sc sd : Int32), Stand p l e ({ frames := 5, cells := 8, slots := 256, locals := 66 } : Room) (s.setVm vm172) m #[(.ref ta)] below meth c T172 lc172 4 128 → T172.heap = h172 → Fr n0 lc172 → Ext h0 h172 → s.Since vm172 k0_172 → k0_172 ≤ h172.size → Z.Warmed39 (s.setVm vm172).vm → (s.setVm vm172).vm.findClass "com/example/permitd/permitd/http/Headers" = some m.cls → CHr Z EL s.vm s.heap vm172 h172 → (2 ≤ cs.length) → (∀ j, j < 2 → tokB (cs.getD j 0) = true) → Rch p e below T172 (mkF m 11 #[vR ta, vI (2 : Int32), vI sc, vI sd] []) (fun U o => ∃ v L, o = .returned v ∧ Q_isTok Z ta cs fm h0 n0 v U.heap L ∧ CHr Z EL s.vm s.heap U.vm U.heap ∧ ReturnedEndW s o U L ({ frames := 5, cells := 8, slots := 256, locals := 66 } : Room).cells ({ frames := 5, cells := 8, slots := 256, locals := 66 } : Room).slots) := by
    intro T172 lc172 h172 vm172 k0_172 sc sd X172 e172 N172 Ex172 hS172 hk172 hZ172 hown172 R172 hi ht
    show Rch p e below T172 (mkF m 11 #[vR ta, vI (2 : Int32), vI sc, vI sd] []) _
    refine Rch.st (fun _ k => XS.iloadN X172.here hx rfl (hb hby dit_11) rfl k) ?_
    refine Rch.st (fun _ k => XS.aloadN X172.here hx rfl (hb hby dit_12) rfl rfl k) ?_
    show Rch p e below T172 (mkF m 13 #[vR ta, vI (2 : Int32), vI sc, vI sd] [(.ref ta), (.int (2 : Int32))]) _
    obtain ⟨cq173, kq173, q173a, q173b, q173c⟩ := isOf hZ172 e172 ((S1.ext Ex172)).exa
    obtain ⟨_, _, ⟨T173, L173, k173, n173⟩, -, X173, ⟨Lc173, hQ173, l173, y173, z173⟩, st173⟩ := X172.virtualBack hx (y := (⟨"java/lang/String", "length", "()I"⟩ : MethodName)) (z := (⟨"java/lang/String", "length", "()I"⟩ : MethodName)) hown172 (mvT hZ172 (wq hw 46 rfl)) (mvT hZ172 (wq hw 47 rfl)) (notFace_of_selects (args := #[]) (mvT hZ172 (wq hw 49 rfl))) (mvT hZ172 (wq hw 49 rfl)) (mvT hZ172 (wq hw 48 rfl)) (by decide) (lenS (W := 1) hZ172 hw (S1.ext Ex172) (B.ext Ex172).1 (by omega) (by decide) (by decide)) q173a q173c (g := (mkF m 13 #[vR ta, vI (2 : Int32), vI sc, vI sd] [(.ref ta), (.int (2 : Int32))])) rfl (by rw [hml]; rfl) (Steps.refl _) (argsL := []) (rest := [(.int (2 : Int32))]) (lenOf pd_16 rfl) rfl (by show 2 * 0 + _ ≤ _; exact Nat.le_of_eq rfl) (hb hby dit_13) (fun _ _ => ⟨rfl, e172, (by decide : 4 + 0 ≤ _), (by decide : 128 + 0 ≤ _)⟩)
    dsimp only [Pt.U, Pt.locs, Pt.cells, Pt.slots] at X173 l173 y173 z173 st173 hQ173
    subst l173 y173 z173
    obtain ⟨rfl, hL173, e173⟩ := hQ173
    subst hL173
    have Nq173 := Fr.nil n0
    have N173 := Fr.app N172 Nq173
    refine Rch.go st173 ?_
    show Rch p e below T173 (mkF m 16 #[vR ta, vI (2 : Int32), vI sc, vI sd] [(.int (Int32.ofNat cs.length)), (.int (2 : Int32))]) _
    by_cases hlt : 2 < cs.length
    · skip
      have hlt' : (2 : Int32) < Int32.ofNat cs.length := ofN_lt hlt (by omega)
      refine Rch.st (fun _ k => XS.icmpNo X173.here hx rfl (hb hby dit_16) rfl (tlt hlt').2.1 k) ?_
      refine Rch.st (fun _ k => XS.aloadN X173.here hx rfl (hb hby dit_19) rfl rfl k) ?_
      show Rch p e below T173 (mkF m 20 #[vR ta, vI (2 : Int32), vI sc, vI sd] [(.ref ta)]) _
      refine Rch.st (fun _ k => XS.iloadN X173.here hx rfl (hb hby dit_20) rfl k) ?_
      show Rch p e below T173 (mkF m 21 #[vR ta, vI (2 : Int32), vI sc, vI sd] [(.int (2 : Int32)), (.ref ta)]) _
      obtain ⟨cq174, kq174, q174a, q174b, q174c⟩ := isOf hZ172 e173 ((S1.ext Ex172)).exa
      obtain ⟨_, _, ⟨T174, L174, k174, n174⟩, -, X174, ⟨Lc174, hQ174, l174, y174, z174⟩, st174⟩ := X173.virtualBack hx (y := (⟨"java/lang/String", "charAt", "(I)C"⟩ : MethodName)) (z := (⟨"java/lang/String", "charAt", "(I)C"⟩ : MethodName)) hown172 (mvT hZ172 (wq hw 56 rfl)) (mvT hZ172 (wq hw 57 rfl)) (notFace_of_selects (args := #[]) (mvT hZ172 (wq hw 59 rfl))) (mvT hZ172 (wq hw 59 rfl)) (mvT hZ172 (wq hw 58 rfl)) (by decide) (chS (W := 0) hZ172 hw (S1.ext Ex172) (B.ext Ex172) 2 hlt (by omega) n0 (Nat.le_trans Z0 Ex172.1) (by decide) (by decide)) q174a q174c (g := (mkF m 21 #[vR ta, vI (2 : Int32), vI sc, vI sd] [(.int (2 : Int32)), (.ref ta)])) rfl (by rw [hml]; rfl) (Steps.refl _) (argsL := [(.int (2 : Int32))]) (rest := []) (lenOf pd_17 rfl) rfl (by show 2 * 0 + _ ≤ _; exact Nat.le_of_eq rfl) (hb hby dit_21) (fun _ _ => ⟨rfl, e173, (by decide : 4 + 0 ≤ _), (by decide : 128 + 0 ≤ _)⟩)
      dsimp only [Pt.U, Pt.locs, Pt.cells, Pt.slots] at X174 l174 y174 z174 st174 hQ174
      subst l174 y174 z174
      obtain ⟨rfl, Nq174, e174⟩ := hQ174
      have N174 := Fr.app N173 Nq174
      refine Rch.go st174 ?_
      show Rch p e below T174 (mkF m 24 #[vR ta, vI (2 : Int32), vI sc, vI sd] [(.int (cs.getD 2 0))]) _
      have hcm : ¬ cs.getD 2 0 < 0 := by
        have e : cs.getD 2 0 = cs[2] := by simp [List.getD_eq_getElem?_getD, hlt]
        rw [e]; exact (S1.bd _ (List.getElem_mem _)).1
      generalize hc : cs.getD 2 0 = cc at hcm ⊢
      show Rch p e below T174 (mkF m 24 #[vR ta, vI (2 : Int32), vI sc, vI sd] [(.int cc)]) _
      refine Rch.st (fun _ k => XS.istoreN X174.here hx rfl (hb hby dit_24) rfl (l' := #[vR ta, vI (2 : Int32), vI cc, vI sd]) rfl k) ?_
      refine Rch.st (fun _ k => XS.iloadN X174.here hx rfl (hb hby dit_25) rfl k) ?_
      show Rch p e below T174 (mkF m 26 #[vR ta, vI (2 : Int32), vI cc, vI sd] [(.int cc)]) _
      refine Rch.st (fun _ k => XS.bipush X174.here hx rfl (hb hby dit_26)  k) ?_
      show Rch p e below T174 (mkF m 28 #[vR ta, vI (2 : Int32), vI cc, vI sd] [(.int (97 : Int32)), (.int cc)]) _
      have t61 : ∀ (u : Int32), alB cc = true → Rch p e below T174 (mkF m 61 #[vR ta, vI (2 : Int32), vI cc, vI sd] []) (fun U o => ∃ v L, o = .returned v ∧ Q_isTok Z ta cs fm h0 n0 v U.heap L ∧ CHr Z EL s.vm s.heap U.vm U.heap ∧ ReturnedEndW s o U L ({ frames := 5, cells := 8, slots := 256, locals := 66 } : Room).cells ({ frames := 5, cells := 8, slots := 256, locals := 66 } : Room).slots) := by
        intro u ha
        show Rch p e below T174 (mkF m 61 #[vR ta, vI (2 : Int32), vI cc, vI sd] []) _
        refine Rch.st (fun _ k => XS.iconst X174.here hx rfl (hb hby dit_61)  k) ?_
        refine Rch.st (fun _ k => XS.goto X174.here hx rfl (pc0 := 62) (pc' := 66) rfl (hb hby dit_62) (by decide) (by decide) k) ?_
        show Rch p e below T174 (mkF m 66 #[vR ta, vI (2 : Int32), vI cc, vI sd] [(.int (1 : Int32))]) _
        refine Rch.st (fun _ k => XS.istoreN X174.here hx rfl (hb hby dit_66) rfl (l' := #[vR ta, vI (2 : Int32), vI cc, vI (1 : Int32)]) rfl k) ?_
        refine Rch.st (fun _ k => XS.iloadN X174.here hx rfl (hb hby dit_67) rfl k) ?_
        show Rch p e below T174 (mkF m 68 #[vR ta, vI (2 : Int32), vI cc, vI (1 : Int32)] [(.int (1 : Int32))]) _
        refine Rch.st (fun _ k => XS.ifYes X174.here hx rfl (pc0 := 68) (pc' := 82) rfl (hb hby dit_68) rfl (by decide : ifCond.holds .ne (1 : Int32) = true) (by decide) (by decide) k) ?_
        refine Rch.st (fun _ k => XS.iinc X174.here hx rfl (hb hby dit_82) rfl (l' := #[vR ta, vI (3 : Int32), vI cc, vI (1 : Int32)]) rfl k) ?_
        show Rch p e below T174 (mkF m 85 #[vR ta, vI (3 : Int32), vI cc, vI (1 : Int32)] []) _
        refine Rch.st (fun _ k => XS.goto X174.here hx rfl (pc0 := 85) (pc' := 11) rfl (hb hby dit_85) (by decide) (by decide) k) ?_
        show Rch p e below T174 (mkF m 11 #[vR ta, vI (3 : Int32), vI cc, vI (1 : Int32)] []) _
        exact it3 _ _ _ _ _ _ _ (X174.mono (by decide) (by decide)) e174 N174 Ex172 hS172 hk172 hZ172 hown172 R172 hlt (fun j hj => (Nat.lt_or_eq_of_le (Nat.le_of_lt_succ hj)).elim (ht j) (fun q => by subst q; rw [hc]; exact tok_al ha))
      have t65 : ∀ (u : Int32), ¬ alB cc = true → Rch p e below T174 (mkF m 65 #[vR ta, vI (2 : Int32), vI cc, vI sd] []) (fun U o => ∃ v L, o = .returned v ∧ Q_isTok Z ta cs fm h0 n0 v U.heap L ∧ CHr Z EL s.vm s.heap U.vm U.heap ∧ ReturnedEndW s o U L ({ frames := 5, cells := 8, slots := 256, locals := 66 } : Room).cells ({ frames := 5, cells := 8, slots := 256, locals := 66 } : Room).slots) := by
        intro u ha
        show Rch p e below T174 (mkF m 65 #[vR ta, vI (2 : Int32), vI cc, vI sd] []) _
        refine Rch.st (fun _ k => XS.iconst X174.here hx rfl (hb hby dit_65)  k) ?_
        refine Rch.st (fun _ k => XS.istoreN X174.here hx rfl (hb hby dit_66) rfl (l' := #[vR ta, vI (2 : Int32), vI cc, vI (0 : Int32)]) rfl k) ?_
        show Rch p e below T174 (mkF m 67 #[vR ta, vI (2 : Int32), vI cc, vI (0 : Int32)] []) _
        refine Rch.st (fun _ k => XS.iloadN X174.here hx rfl (hb hby dit_67) rfl k) ?_
        refine Rch.st (fun _ k => XS.ifNo X174.here hx rfl (hb hby dit_68) rfl (by decide : ifCond.holds .ne (0 : Int32) = false) k) ?_
        show Rch p e below T174 (mkF m 71 #[vR ta, vI (2 : Int32), vI cc, vI (0 : Int32)] []) _
        obtain ⟨a175, T175, h175, kk175, b175, kb175, X175, e175, E175, hS175, hk175, hZ175, hown175, EX175, CO175, VA175, AR175, la175, lb175, CR175, LT175, SF175, st175⟩ := ldcCH X174 hx hZ172 hown172 (wq hw 78 rfl) wS e174 hS172 hk172 hEL (by simp [EL]) R172.1 (vs := ([33, 35, 36, 37, 38, 39, 42, 43, 45, 46, 94, 95, 96, 124, 126] : List Int32).map (fun c => Value.int c.toInt8.toInt32)) (z := (15 : Int32)) ⟨by decide, by decide⟩ (by decide) rfl (g := (mkF m 71 #[vR ta, vI (2 : Int32), vI cc, vI (0 : Int32)] [])) rfl (hb hby dit_71) (n := 60) (by decide) (by decide) (by decide) (by decide)
        have Ex176 : Ext h0 h175 := Ex172.tr E175
        have Ex177 : Ext h172 h175 := E175
        have R175 := R172.trans CR175
        have Q175 : StrA Z h175 a175 ([33, 35, 36, 37, 38, 39, 42, 43, 45, 46, 94, 95, 96, 124, 126] : List Int32) := strOf (n := 15) rfl rfl (by decide) EX175 VA175 CO175 (by rw [List.map_map]; exact AR175)
        refine Rch.st st175 ?_
        show Rch p e below T175 (mkF m 73 #[vR ta, vI (2 : Int32), vI cc, vI (0 : Int32)] [(.ref a175)]) _
        refine Rch.st (fun _ k => XS.iloadN X175.here hx rfl (hb hby dit_73) rfl k) ?_
        show Rch p e below T175 (mkF m 74 #[vR ta, vI (2 : Int32), vI cc, vI (0 : Int32)] [(.int cc), (.ref a175)]) _
        obtain ⟨cq178, kq178, q178a, q178b, q178c⟩ := isOf hZ175 e175 EX175
        obtain ⟨_, _, ⟨T178, L178, k178, n178⟩, -, X178, ⟨Lc178, hQ178, l178, y178, z178⟩, st178⟩ := X175.virtualBack hx (y := (⟨"java/lang/String", "indexOf", "(I)I"⟩ : MethodName)) (z := (⟨"java/lang/String", "indexOf", "(I)I"⟩ : MethodName)) hown175 (mvT hZ175 (wq hw 79 rfl)) (mvT hZ175 (wq hw 80 rfl)) (notFace_of_selects (args := #[]) (mvT hZ175 (wq hw 82 rfl))) (mvT hZ175 (wq hw 82 rfl)) (mvT hZ175 (wq hw 81 rfl)) (by decide) (backOf (W := 0) (rm_idx1 l Z a0 hw [] a175 b175 kb175 cc h175 n0 (Nat.le_trans Z0 Ex176.1) (B.ext Ex176).1 EX175 VA175 CO175 Q175 hcm AR175) hZ175 (wq hw 83 rfl) (wq hw 3 rfl) (by decide) (by decide)) q178a q178c (g := (mkF m 74 #[vR ta, vI (2 : Int32), vI cc, vI (0 : Int32)] [(.int cc), (.ref a175)])) rfl (by rw [hml]; rfl) (Steps.refl _) (argsL := [(.int cc)]) (rest := []) (lenOf pd_7 rfl) rfl (by show 2 * 0 + _ ≤ _; exact Nat.le_of_eq rfl) (hb hby dit_74) (fun _ _ => ⟨rfl, e175, (by decide : 6 + 0 ≤ _), (by decide : 192 + 0 ≤ _)⟩)
        dsimp only [Pt.U, Pt.locs, Pt.cells, Pt.slots] at X178 l178 y178 z178 st178 hQ178
        subst l178 y178 z178
        obtain ⟨r178, rfl, Nq178, e178, u178, v178⟩ := hQ178
        have N178 := Fr.app N174 Nq178
        refine Rch.go st178 ?_
        show Rch p e below T178 (mkF m 77 #[vR ta, vI (2 : Int32), vI cc, vI (0 : Int32)] [(.int r178)]) _
        by_cases hs : symB cc = true
        · skip
          have hr := u178 hs
          refine Rch.st (fun _ k => XS.ifYes X178.here hx rfl (pc0 := 77) (pc' := 82) rfl (hb hby dit_77) rfl ((if0 _ _).trans (flt hr).2.1) (by decide) (by decide) k) ?_
          refine Rch.st (fun _ k => XS.iinc X178.here hx rfl (hb hby dit_82) rfl (l' := #[vR ta, vI (3 : Int32), vI cc, vI (0 : Int32)]) rfl k) ?_
          show Rch p e below T178 (mkF m 85 #[vR ta, vI (3 : Int32), vI cc, vI (0 : Int32)] []) _
          refine Rch.st (fun _ k => XS.goto X178.here hx rfl (pc0 := 85) (pc' := 11) rfl (hb hby dit_85) (by decide) (by decide) k) ?_
          show Rch p e below T178 (mkF m 11 #[vR ta, vI (3 : Int32), vI cc, vI (0 : Int32)] []) _
          exact it3 _ _ _ _ _ _ _ X178 e178 N178 Ex176 hS175 hk175 hZ175 hown175 R175 hlt (fun j hj => (Nat.lt_or_eq_of_le (Nat.le_of_lt_succ hj)).elim (ht j) (fun q => by subst q; rw [hc]; exact tok_sy hs))
        · skip
          have hr := v178 hs
          refine Rch.st (fun _ k => XS.ifNo X178.here hx rfl (hb hby dit_77) rfl ((if0 _ _).trans (tlt hr).2.1) k) ?_
          refine Rch.st (fun _ k => XS.iconst X178.here hx rfl (hb hby dit_80)  k) ?_
          show Rch p e below T178 (mkF m 81 #[vR ta, vI (2 : Int32), vI cc, vI (0 : Int32)] [(.int (0 : Int32))]) _
          have hno : ¬ (¬ cs = [] ∧ ∀ c ∈ cs, tokB c = true) := fun q => by
            have z := q.2 (cs.getD 2 0) (by rw [show cs.getD 2 0 = cs[2] by simp [List.getD_eq_getElem?_getD, hlt]]; exact List.getElem_mem _)
            rw [hc] at z; exact tok_no ha hs z
          exact Rch.finW (Q := Q_isTok Z ta cs fm h0 n0) X178 hZ175 hEL hS175 (by rw [e178]; exact hk175) e178 R175 (v := some (.int (0 : Int32))) (fun h => by rw [Bd.returns] at h; cases h) (BodyLoose.notSynchronized Bd) (fun fs hr => retN X178 hx (t := .boolean) Bd.returns (by simp) (hb hby dit_81) hr) (by rw [e178]; exact ⟨0, rfl, N178, Ex176, fun q => absurd q hno, fun _ => rfl⟩) (by decide) (by decide)
      have t49 : ∀ (u : Int32), cc < (97 : Int32) ∨ (122 : Int32) < cc → cc < (65 : Int32) ∨ (90 : Int32) < cc → Rch p e below T174 (mkF m 49 #[vR ta, vI (2 : Int32), vI cc, vI sd] []) (fun U o => ∃ v L, o = .returned v ∧ Q_isTok Z ta cs fm h0 n0 v U.heap L ∧ CHr Z EL s.vm s.heap U.vm U.heap ∧ ReturnedEndW s o U L ({ frames := 5, cells := 8, slots := 256, locals := 66 } : Room).cells ({ frames := 5, cells := 8, slots := 256, locals := 66 } : Room).slots) := by
        intro u z1 z2
        show Rch p e below T174 (mkF m 49 #[vR ta, vI (2 : Int32), vI cc, vI sd] []) _
        refine Rch.st (fun _ k => XS.iloadN X174.here hx rfl (hb hby dit_49) rfl k) ?_
        refine Rch.st (fun _ k => XS.bipush X174.here hx rfl (hb hby dit_50)  k) ?_
        show Rch p e below T174 (mkF m 52 #[vR ta, vI (2 : Int32), vI cc, vI sd] [(.int (48 : Int32)), (.int cc)]) _
        by_cases g1 : cc < (48 : Int32)
        · skip
          refine Rch.st (fun _ k => XS.icmpYes X174.here hx rfl (pc0 := 52) (pc' := 65) rfl (hb hby dit_52) rfl (tlt g1).1 (by decide) (by decide) k) ?_
          show Rch p e below T174 (mkF m 65 #[vR ta, vI (2 : Int32), vI cc, vI sd] []) _
          exact t65 0 (al_no z1 z2 (Or.inl g1))
        · skip
          refine Rch.st (fun _ k => XS.icmpNo X174.here hx rfl (hb hby dit_52) rfl (flt g1).1 k) ?_
          refine Rch.st (fun _ k => XS.iloadN X174.here hx rfl (hb hby dit_55) rfl k) ?_
          show Rch p e below T174 (mkF m 56 #[vR ta, vI (2 : Int32), vI cc, vI sd] [(.int cc)]) _
          refine Rch.st (fun _ k => XS.bipush X174.here hx rfl (hb hby dit_56)  k) ?_
          show Rch p e below T174 (mkF m 58 #[vR ta, vI (2 : Int32), vI cc, vI sd] [(.int (57 : Int32)), (.int cc)]) _
          by_cases g2 : (57 : Int32) < cc
          · skip
            refine Rch.st (fun _ k => XS.icmpYes X174.here hx rfl (pc0 := 58) (pc' := 65) rfl (hb hby dit_58) rfl (tlt g2).2.2.1 (by decide) (by decide) k) ?_
            show Rch p e below T174 (mkF m 65 #[vR ta, vI (2 : Int32), vI cc, vI sd] []) _
            exact t65 0 (al_no z1 z2 (Or.inr g2))
          · skip
            refine Rch.st (fun _ k => XS.icmpNo X174.here hx rfl (hb hby dit_58) rfl (flt g2).2.2.1 k) ?_
            show Rch p e below T174 (mkF m 61 #[vR ta, vI (2 : Int32), vI cc, vI sd] []) _
            exact t61 0 (al_3 g1 g2)
      have t37 : ∀ (u : Int32), cc < (97 : Int32) ∨ (122 : Int32) < cc → Rch p e below T174 (mkF m 37 #[vR ta, vI (2 : Int32), vI cc, vI sd] []) (fun U o => ∃ v L, o = .returned v ∧ Q_isTok Z ta cs fm h0 n0 v U.heap L ∧ CHr Z EL s.vm s.heap U.vm U.heap ∧ ReturnedEndW s o U L ({ frames := 5, cells := 8, slots := 256, locals := 66 } : Room).cells ({ frames := 5, cells := 8, slots := 256, locals := 66 } : Room).slots) := by
        intro u z1
        show Rch p e below T174 (mkF m 37 #[vR ta, vI (2 : Int32), vI cc, vI sd] []) _
        refine Rch.st (fun _ k => XS.iloadN X174.here hx rfl (hb hby dit_37) rfl k) ?_
        refine Rch.st (fun _ k => XS.bipush X174.here hx rfl (hb hby dit_38)  k) ?_
        show Rch p e below T174 (mkF m 40 #[vR ta, vI (2 : Int32), vI cc, vI sd] [(.int (65 : Int32)), (.int cc)]) _
        by_cases g1 : cc < (65 : Int32)
        · skip
          refine Rch.st (fun _ k => XS.icmpYes X174.here hx rfl (pc0 := 40) (pc' := 49) rfl (hb hby dit_40) rfl (tlt g1).1 (by decide) (by decide) k) ?_
          show Rch p e below T174 (mkF m 49 #[vR ta, vI (2 : Int32), vI cc, vI sd] []) _
          exact t49 0 z1 (Or.inl g1)
        · skip
          refine Rch.st (fun _ k => XS.icmpNo X174.here hx rfl (hb hby dit_40) rfl (flt g1).1 k) ?_
          refine Rch.st (fun _ k => XS.iloadN X174.here hx rfl (hb hby dit_43) rfl k) ?_
          show Rch p e below T174 (mkF m 44 #[vR ta, vI (2 : Int32), vI cc, vI sd] [(.int cc)]) _
          refine Rch.st (fun _ k => XS.bipush X174.here hx rfl (hb hby dit_44)  k) ?_
          show Rch p e below T174 (mkF m 46 #[vR ta, vI (2 : Int32), vI cc, vI sd] [(.int (90 : Int32)), (.int cc)]) _
          by_cases g2 : (90 : Int32) < cc
          · skip
            refine Rch.st (fun _ k => XS.icmpNo X174.here hx rfl (hb hby dit_46) rfl (tlt g2).2.2.2 k) ?_
            show Rch p e below T174 (mkF m 49 #[vR ta, vI (2 : Int32), vI cc, vI sd] []) _
            exact t49 0 z1 (Or.inr g2)
          · skip
            refine Rch.st (fun _ k => XS.icmpYes X174.here hx rfl (pc0 := 46) (pc' := 61) rfl (hb hby dit_46) rfl (flt g2).2.2.2 (by decide) (by decide) k) ?_
            show Rch p e below T174 (mkF m 61 #[vR ta, vI (2 : Int32), vI cc, vI sd] []) _
            exact t61 0 (al_2 g1 g2)
      by_cases g1 : cc < (97 : Int32)
      · skip
        refine Rch.st (fun _ k => XS.icmpYes X174.here hx rfl (pc0 := 28) (pc' := 37) rfl (hb hby dit_28) rfl (tlt g1).1 (by decide) (by decide) k) ?_
        show Rch p e below T174 (mkF m 37 #[vR ta, vI (2 : Int32), vI cc, vI sd] []) _
        exact t37 0 (Or.inl g1)
      · skip
        refine Rch.st (fun _ k => XS.icmpNo X174.here hx rfl (hb hby dit_28) rfl (flt g1).1 k) ?_
        refine Rch.st (fun _ k => XS.iloadN X174.here hx rfl (hb hby dit_31) rfl k) ?_
        show Rch p e below T174 (mkF m 32 #[vR ta, vI (2 : Int32), vI cc, vI sd] [(.int cc)]) _
        refine Rch.st (fun _ k => XS.bipush X174.here hx rfl (hb hby dit_32)  k) ?_
        show Rch p e below T174 (mkF m 34 #[vR ta, vI (2 : Int32), vI cc, vI sd] [(.int (122 : Int32)), (.int cc)]) _
        by_cases g2 : (122 : Int32) < cc
        · skip
          refine Rch.st (fun _ k => XS.icmpNo X174.here hx rfl (hb hby dit_34) rfl (tlt g2).2.2.2 k) ?_
          show Rch p e below T174 (mkF m 37 #[vR ta, vI (2 : Int32), vI cc, vI sd] []) _
          exact t37 0 (Or.inr g2)
        · skip
          refine Rch.st (fun _ k => XS.icmpYes X174.here hx rfl (pc0 := 34) (pc' := 61) rfl (hb hby dit_34) rfl (flt g2).2.2.2 (by decide) (by decide) k) ?_
          show Rch p e below T174 (mkF m 61 #[vR ta, vI (2 : Int32), vI cc, vI sd] []) _
          exact t61 0 (al_1 g1 g2)
    · skip
      have hge : cs.length ≤ 2 := Nat.le_of_not_lt hlt
      have hge' : ¬ (2 : Int32) < Int32.ofNat cs.length := ofN_le hge (by decide)
      refine Rch.st (fun _ k => XS.icmpYes X173.here hx rfl (pc0 := 16) (pc' := 88) rfl (hb hby dit_16) rfl (flt hge').2.1 (by decide) (by decide) k) ?_
      refine Rch.st (fun _ k => XS.iconst X173.here hx rfl (hb hby dit_88)  k) ?_
      show Rch p e below T173 (mkF m 89 #[vR ta, vI (2 : Int32), vI sc, vI sd] [(.int (1 : Int32))]) _
      have hyes : (¬ cs = [] ∧ ∀ c ∈ cs, tokB c = true) := ⟨hne, fun c hc => by
        obtain ⟨j, hj, rfl⟩ := List.getElem_of_mem hc
        have := ht j (by omega)
        rwa [show cs.getD j 0 = cs[j] by simp [List.getD_eq_getElem?_getD, hj]] at this⟩
      exact Rch.finW (Q := Q_isTok Z ta cs fm h0 n0) X173 hZ172 hEL hS172 (by rw [e173]; exact hk172) e173 R172 (v := some (.int (1 : Int32))) (fun h => by rw [Bd.returns] at h; cases h) (BodyLoose.notSynchronized Bd) (fun fs hr => retN X173 hx (t := .boolean) Bd.returns (by simp) (hb hby dit_89) hr) (by rw [e173]; exact ⟨1, rfl, N173, Ex172, fun _ => rfl, fun q => absurd hyes q⟩) (by decide) (by decide)
  have it1 : ∀ (T179 : State) (lc179 : List Loc) (h179 : Heap) (vm179 : Vm) (k0_179 : Nat) (sc sd : Int32), Stand p l e ({ frames := 5, cells := 8, slots := 256, locals := 66 } : Room) (s.setVm vm179) m #[(.ref ta)] below meth c T179 lc179 2 64 → T179.heap = h179 → Fr n0 lc179 → Ext h0 h179 → s.Since vm179 k0_179 → k0_179 ≤ h179.size → Z.Warmed39 (s.setVm vm179).vm → (s.setVm vm179).vm.findClass "com/example/permitd/permitd/http/Headers" = some m.cls → CHr Z EL s.vm s.heap vm179 h179 → (1 ≤ cs.length) → (∀ j, j < 1 → tokB (cs.getD j 0) = true) → Rch p e below T179 (mkF m 11 #[vR ta, vI (1 : Int32), vI sc, vI sd] []) (fun U o => ∃ v L, o = .returned v ∧ Q_isTok Z ta cs fm h0 n0 v U.heap L ∧ CHr Z EL s.vm s.heap U.vm U.heap ∧ ReturnedEndW s o U L ({ frames := 5, cells := 8, slots := 256, locals := 66 } : Room).cells ({ frames := 5, cells := 8, slots := 256, locals := 66 } : Room).slots) := by
    intro T179 lc179 h179 vm179 k0_179 sc sd X179 e179 N179 Ex179 hS179 hk179 hZ179 hown179 R179 hi ht
    show Rch p e below T179 (mkF m 11 #[vR ta, vI (1 : Int32), vI sc, vI sd] []) _
    refine Rch.st (fun _ k => XS.iloadN X179.here hx rfl (hb hby dit_11) rfl k) ?_
    refine Rch.st (fun _ k => XS.aloadN X179.here hx rfl (hb hby dit_12) rfl rfl k) ?_
    show Rch p e below T179 (mkF m 13 #[vR ta, vI (1 : Int32), vI sc, vI sd] [(.ref ta), (.int (1 : Int32))]) _
    obtain ⟨cq180, kq180, q180a, q180b, q180c⟩ := isOf hZ179 e179 ((S1.ext Ex179)).exa
    obtain ⟨_, _, ⟨T180, L180, k180, n180⟩, -, X180, ⟨Lc180, hQ180, l180, y180, z180⟩, st180⟩ := X179.virtualBack hx (y := (⟨"java/lang/String", "length", "()I"⟩ : MethodName)) (z := (⟨"java/lang/String", "length", "()I"⟩ : MethodName)) hown179 (mvT hZ179 (wq hw 46 rfl)) (mvT hZ179 (wq hw 47 rfl)) (notFace_of_selects (args := #[]) (mvT hZ179 (wq hw 49 rfl))) (mvT hZ179 (wq hw 49 rfl)) (mvT hZ179 (wq hw 48 rfl)) (by decide) (lenS (W := 1) hZ179 hw (S1.ext Ex179) (B.ext Ex179).1 (by omega) (by decide) (by decide)) q180a q180c (g := (mkF m 13 #[vR ta, vI (1 : Int32), vI sc, vI sd] [(.ref ta), (.int (1 : Int32))])) rfl (by rw [hml]; rfl) (Steps.refl _) (argsL := []) (rest := [(.int (1 : Int32))]) (lenOf pd_16 rfl) rfl (by show 2 * 0 + _ ≤ _; exact Nat.le_of_eq rfl) (hb hby dit_13) (fun _ _ => ⟨rfl, e179, (by decide : 2 + 0 ≤ _), (by decide : 64 + 0 ≤ _)⟩)
    dsimp only [Pt.U, Pt.locs, Pt.cells, Pt.slots] at X180 l180 y180 z180 st180 hQ180
    subst l180 y180 z180
    obtain ⟨rfl, hL180, e180⟩ := hQ180
    subst hL180
    have Nq180 := Fr.nil n0
    have N180 := Fr.app N179 Nq180
    refine Rch.go st180 ?_
    show Rch p e below T180 (mkF m 16 #[vR ta, vI (1 : Int32), vI sc, vI sd] [(.int (Int32.ofNat cs.length)), (.int (1 : Int32))]) _
    by_cases hlt : 1 < cs.length
    · skip
      have hlt' : (1 : Int32) < Int32.ofNat cs.length := ofN_lt hlt (by omega)
      refine Rch.st (fun _ k => XS.icmpNo X180.here hx rfl (hb hby dit_16) rfl (tlt hlt').2.1 k) ?_
      refine Rch.st (fun _ k => XS.aloadN X180.here hx rfl (hb hby dit_19) rfl rfl k) ?_
      show Rch p e below T180 (mkF m 20 #[vR ta, vI (1 : Int32), vI sc, vI sd] [(.ref ta)]) _
      refine Rch.st (fun _ k => XS.iloadN X180.here hx rfl (hb hby dit_20) rfl k) ?_
      show Rch p e below T180 (mkF m 21 #[vR ta, vI (1 : Int32), vI sc, vI sd] [(.int (1 : Int32)), (.ref ta)]) _
      obtain ⟨cq181, kq181, q181a, q181b, q181c⟩ := isOf hZ179 e180 ((S1.ext Ex179)).exa
      obtain ⟨_, _, ⟨T181, L181, k181, n181⟩, -, X181, ⟨Lc181, hQ181, l181, y181, z181⟩, st181⟩ := X180.virtualBack hx (y := (⟨"java/lang/String", "charAt", "(I)C"⟩ : MethodName)) (z := (⟨"java/lang/String", "charAt", "(I)C"⟩ : MethodName)) hown179 (mvT hZ179 (wq hw 56 rfl)) (mvT hZ179 (wq hw 57 rfl)) (notFace_of_selects (args := #[]) (mvT hZ179 (wq hw 59 rfl))) (mvT hZ179 (wq hw 59 rfl)) (mvT hZ179 (wq hw 58 rfl)) (by decide) (chS (W := 0) hZ179 hw (S1.ext Ex179) (B.ext Ex179) 1 hlt (by omega) n0 (Nat.le_trans Z0 Ex179.1) (by decide) (by decide)) q181a q181c (g := (mkF m 21 #[vR ta, vI (1 : Int32), vI sc, vI sd] [(.int (1 : Int32)), (.ref ta)])) rfl (by rw [hml]; rfl) (Steps.refl _) (argsL := [(.int (1 : Int32))]) (rest := []) (lenOf pd_17 rfl) rfl (by show 2 * 0 + _ ≤ _; exact Nat.le_of_eq rfl) (hb hby dit_21) (fun _ _ => ⟨rfl, e180, (by decide : 2 + 0 ≤ _), (by decide : 64 + 0 ≤ _)⟩)
      dsimp only [Pt.U, Pt.locs, Pt.cells, Pt.slots] at X181 l181 y181 z181 st181 hQ181
      subst l181 y181 z181
      obtain ⟨rfl, Nq181, e181⟩ := hQ181
      have N181 := Fr.app N180 Nq181
      refine Rch.go st181 ?_
      show Rch p e below T181 (mkF m 24 #[vR ta, vI (1 : Int32), vI sc, vI sd] [(.int (cs.getD 1 0))]) _
      have hcm : ¬ cs.getD 1 0 < 0 := by
        have e : cs.getD 1 0 = cs[1] := by simp [List.getD_eq_getElem?_getD, hlt]
        rw [e]; exact (S1.bd _ (List.getElem_mem _)).1
      generalize hc : cs.getD 1 0 = cc at hcm ⊢
      show Rch p e below T181 (mkF m 24 #[vR ta, vI (1 : Int32), vI sc, vI sd] [(.int cc)]) _
      refine Rch.st (fun _ k => XS.istoreN X181.here hx rfl (hb hby dit_24) rfl (l' := #[vR ta, vI (1 : Int32), vI cc, vI sd]) rfl k) ?_
      refine Rch.st (fun _ k => XS.iloadN X181.here hx rfl (hb hby dit_25) rfl k) ?_
      show Rch p e below T181 (mkF m 26 #[vR ta, vI (1 : Int32), vI cc, vI sd] [(.int cc)]) _
      refine Rch.st (fun _ k => XS.bipush X181.here hx rfl (hb hby dit_26)  k) ?_
      show Rch p e below T181 (mkF m 28 #[vR ta, vI (1 : Int32), vI cc, vI sd] [(.int (97 : Int32)), (.int cc)]) _
      have t61 : ∀ (u : Int32), alB cc = true → Rch p e below T181 (mkF m 61 #[vR ta, vI (1 : Int32), vI cc, vI sd] []) (fun U o => ∃ v L, o = .returned v ∧ Q_isTok Z ta cs fm h0 n0 v U.heap L ∧ CHr Z EL s.vm s.heap U.vm U.heap ∧ ReturnedEndW s o U L ({ frames := 5, cells := 8, slots := 256, locals := 66 } : Room).cells ({ frames := 5, cells := 8, slots := 256, locals := 66 } : Room).slots) := by
        intro u ha
        show Rch p e below T181 (mkF m 61 #[vR ta, vI (1 : Int32), vI cc, vI sd] []) _
        refine Rch.st (fun _ k => XS.iconst X181.here hx rfl (hb hby dit_61)  k) ?_
        refine Rch.st (fun _ k => XS.goto X181.here hx rfl (pc0 := 62) (pc' := 66) rfl (hb hby dit_62) (by decide) (by decide) k) ?_
        show Rch p e below T181 (mkF m 66 #[vR ta, vI (1 : Int32), vI cc, vI sd] [(.int (1 : Int32))]) _
        refine Rch.st (fun _ k => XS.istoreN X181.here hx rfl (hb hby dit_66) rfl (l' := #[vR ta, vI (1 : Int32), vI cc, vI (1 : Int32)]) rfl k) ?_
        refine Rch.st (fun _ k => XS.iloadN X181.here hx rfl (hb hby dit_67) rfl k) ?_
        show Rch p e below T181 (mkF m 68 #[vR ta, vI (1 : Int32), vI cc, vI (1 : Int32)] [(.int (1 : Int32))]) _
        refine Rch.st (fun _ k => XS.ifYes X181.here hx rfl (pc0 := 68) (pc' := 82) rfl (hb hby dit_68) rfl (by decide : ifCond.holds .ne (1 : Int32) = true) (by decide) (by decide) k) ?_
        refine Rch.st (fun _ k => XS.iinc X181.here hx rfl (hb hby dit_82) rfl (l' := #[vR ta, vI (2 : Int32), vI cc, vI (1 : Int32)]) rfl k) ?_
        show Rch p e below T181 (mkF m 85 #[vR ta, vI (2 : Int32), vI cc, vI (1 : Int32)] []) _
        refine Rch.st (fun _ k => XS.goto X181.here hx rfl (pc0 := 85) (pc' := 11) rfl (hb hby dit_85) (by decide) (by decide) k) ?_
        show Rch p e below T181 (mkF m 11 #[vR ta, vI (2 : Int32), vI cc, vI (1 : Int32)] []) _
        exact it2 _ _ _ _ _ _ _ (X181.mono (by decide) (by decide)) e181 N181 Ex179 hS179 hk179 hZ179 hown179 R179 hlt (fun j hj => (Nat.lt_or_eq_of_le (Nat.le_of_lt_succ hj)).elim (ht j) (fun q => by subst q; rw [hc]; exact tok_al ha))
      have t65 : ∀ (u : Int32), ¬ alB cc = true → Rch p e below T181 (mkF m 65 #[vR ta, vI (1 : Int32), vI cc, vI sd] []) (fun U o => ∃ v L, o = .returned v ∧ Q_isTok Z ta cs fm h0 n0 v U.heap L ∧ CHr Z EL s.vm s.heap U.vm U.heap ∧ ReturnedEndW s o U L ({ frames := 5, cells := 8, slots := 256, locals := 66 } : Room).cells ({ frames := 5, cells := 8, slots := 256, locals := 66 } : Room).slots) := by
        intro u ha
        show Rch p e below T181 (mkF m 65 #[vR ta, vI (1 : Int32), vI cc, vI sd] []) _
        refine Rch.st (fun _ k => XS.iconst X181.here hx rfl (hb hby dit_65)  k) ?_
        refine Rch.st (fun _ k => XS.istoreN X181.here hx rfl (hb hby dit_66) rfl (l' := #[vR ta, vI (1 : Int32), vI cc, vI (0 : Int32)]) rfl k) ?_
        show Rch p e below T181 (mkF m 67 #[vR ta, vI (1 : Int32), vI cc, vI (0 : Int32)] []) _
        refine Rch.st (fun _ k => XS.iloadN X181.here hx rfl (hb hby dit_67) rfl k) ?_
        refine Rch.st (fun _ k => XS.ifNo X181.here hx rfl (hb hby dit_68) rfl (by decide : ifCond.holds .ne (0 : Int32) = false) k) ?_
        show Rch p e below T181 (mkF m 71 #[vR ta, vI (1 : Int32), vI cc, vI (0 : Int32)] []) _
        obtain ⟨a182, T182, h182, kk182, b182, kb182, X182, e182, E182, hS182, hk182, hZ182, hown182, EX182, CO182, VA182, AR182, la182, lb182, CR182, LT182, SF182, st182⟩ := ldcCH X181 hx hZ179 hown179 (wq hw 78 rfl) wS e181 hS179 hk179 hEL (by simp [EL]) R179.1 (vs := ([33, 35, 36, 37, 38, 39, 42, 43, 45, 46, 94, 95, 96, 124, 126] : List Int32).map (fun c => Value.int c.toInt8.toInt32)) (z := (15 : Int32)) ⟨by decide, by decide⟩ (by decide) rfl (g := (mkF m 71 #[vR ta, vI (1 : Int32), vI cc, vI (0 : Int32)] [])) rfl (hb hby dit_71) (n := 60) (by decide) (by decide) (by decide) (by decide)
        have Ex183 : Ext h0 h182 := Ex179.tr E182
        have Ex184 : Ext h179 h182 := E182
        have R182 := R179.trans CR182
        have Q182 : StrA Z h182 a182 ([33, 35, 36, 37, 38, 39, 42, 43, 45, 46, 94, 95, 96, 124, 126] : List Int32) := strOf (n := 15) rfl rfl (by decide) EX182 VA182 CO182 (by rw [List.map_map]; exact AR182)
        refine Rch.st st182 ?_
        show Rch p e below T182 (mkF m 73 #[vR ta, vI (1 : Int32), vI cc, vI (0 : Int32)] [(.ref a182)]) _
        refine Rch.st (fun _ k => XS.iloadN X182.here hx rfl (hb hby dit_73) rfl k) ?_
        show Rch p e below T182 (mkF m 74 #[vR ta, vI (1 : Int32), vI cc, vI (0 : Int32)] [(.int cc), (.ref a182)]) _
        obtain ⟨cq185, kq185, q185a, q185b, q185c⟩ := isOf hZ182 e182 EX182
        obtain ⟨_, _, ⟨T185, L185, k185, n185⟩, -, X185, ⟨Lc185, hQ185, l185, y185, z185⟩, st185⟩ := X182.virtualBack hx (y := (⟨"java/lang/String", "indexOf", "(I)I"⟩ : MethodName)) (z := (⟨"java/lang/String", "indexOf", "(I)I"⟩ : MethodName)) hown182 (mvT hZ182 (wq hw 79 rfl)) (mvT hZ182 (wq hw 80 rfl)) (notFace_of_selects (args := #[]) (mvT hZ182 (wq hw 82 rfl))) (mvT hZ182 (wq hw 82 rfl)) (mvT hZ182 (wq hw 81 rfl)) (by decide) (backOf (W := 0) (rm_idx1 l Z a0 hw [] a182 b182 kb182 cc h182 n0 (Nat.le_trans Z0 Ex183.1) (B.ext Ex183).1 EX182 VA182 CO182 Q182 hcm AR182) hZ182 (wq hw 83 rfl) (wq hw 3 rfl) (by decide) (by decide)) q185a q185c (g := (mkF m 74 #[vR ta, vI (1 : Int32), vI cc, vI (0 : Int32)] [(.int cc), (.ref a182)])) rfl (by rw [hml]; rfl) (Steps.refl _) (argsL := [(.int cc)]) (rest := []) (lenOf pd_7 rfl) rfl (by show 2 * 0 + _ ≤ _; exact Nat.le_of_eq rfl) (hb hby dit_74) (fun _ _ => ⟨rfl, e182, (by decide : 4 + 0 ≤ _), (by decide : 128 + 0 ≤ _)⟩)
        dsimp only [Pt.U, Pt.locs, Pt.cells, Pt.slots] at X185 l185 y185 z185 st185 hQ185
        subst l185 y185 z185
        obtain ⟨r185, rfl, Nq185, e185, u185, v185⟩ := hQ185
        have N185 := Fr.app N181 Nq185
        refine Rch.go st185 ?_
        show Rch p e below T185 (mkF m 77 #[vR ta, vI (1 : Int32), vI cc, vI (0 : Int32)] [(.int r185)]) _
        by_cases hs : symB cc = true
        · skip
          have hr := u185 hs
          refine Rch.st (fun _ k => XS.ifYes X185.here hx rfl (pc0 := 77) (pc' := 82) rfl (hb hby dit_77) rfl ((if0 _ _).trans (flt hr).2.1) (by decide) (by decide) k) ?_
          refine Rch.st (fun _ k => XS.iinc X185.here hx rfl (hb hby dit_82) rfl (l' := #[vR ta, vI (2 : Int32), vI cc, vI (0 : Int32)]) rfl k) ?_
          show Rch p e below T185 (mkF m 85 #[vR ta, vI (2 : Int32), vI cc, vI (0 : Int32)] []) _
          refine Rch.st (fun _ k => XS.goto X185.here hx rfl (pc0 := 85) (pc' := 11) rfl (hb hby dit_85) (by decide) (by decide) k) ?_
          show Rch p e below T185 (mkF m 11 #[vR ta, vI (2 : Int32), vI cc, vI (0 : Int32)] []) _
          exact it2 _ _ _ _ _ _ _ X185 e185 N185 Ex183 hS182 hk182 hZ182 hown182 R182 hlt (fun j hj => (Nat.lt_or_eq_of_le (Nat.le_of_lt_succ hj)).elim (ht j) (fun q => by subst q; rw [hc]; exact tok_sy hs))
        · skip
          have hr := v185 hs
          refine Rch.st (fun _ k => XS.ifNo X185.here hx rfl (hb hby dit_77) rfl ((if0 _ _).trans (tlt hr).2.1) k) ?_
          refine Rch.st (fun _ k => XS.iconst X185.here hx rfl (hb hby dit_80)  k) ?_
          show Rch p e below T185 (mkF m 81 #[vR ta, vI (1 : Int32), vI cc, vI (0 : Int32)] [(.int (0 : Int32))]) _
          have hno : ¬ (¬ cs = [] ∧ ∀ c ∈ cs, tokB c = true) := fun q => by
            have z := q.2 (cs.getD 1 0) (by rw [show cs.getD 1 0 = cs[1] by simp [List.getD_eq_getElem?_getD, hlt]]; exact List.getElem_mem _)
            rw [hc] at z; exact tok_no ha hs z
          exact Rch.finW (Q := Q_isTok Z ta cs fm h0 n0) X185 hZ182 hEL hS182 (by rw [e185]; exact hk182) e185 R182 (v := some (.int (0 : Int32))) (fun h => by rw [Bd.returns] at h; cases h) (BodyLoose.notSynchronized Bd) (fun fs hr => retN X185 hx (t := .boolean) Bd.returns (by simp) (hb hby dit_81) hr) (by rw [e185]; exact ⟨0, rfl, N185, Ex183, fun q => absurd q hno, fun _ => rfl⟩) (by decide) (by decide)
      have t49 : ∀ (u : Int32), cc < (97 : Int32) ∨ (122 : Int32) < cc → cc < (65 : Int32) ∨ (90 : Int32) < cc → Rch p e below T181 (mkF m 49 #[vR ta, vI (1 : Int32), vI cc, vI sd] []) (fun U o => ∃ v L, o = .returned v ∧ Q_isTok Z ta cs fm h0 n0 v U.heap L ∧ CHr Z EL s.vm s.heap U.vm U.heap ∧ ReturnedEndW s o U L ({ frames := 5, cells := 8, slots := 256, locals := 66 } : Room).cells ({ frames := 5, cells := 8, slots := 256, locals := 66 } : Room).slots) := by
        intro u z1 z2
        show Rch p e below T181 (mkF m 49 #[vR ta, vI (1 : Int32), vI cc, vI sd] []) _
        refine Rch.st (fun _ k => XS.iloadN X181.here hx rfl (hb hby dit_49) rfl k) ?_
        refine Rch.st (fun _ k => XS.bipush X181.here hx rfl (hb hby dit_50)  k) ?_
        show Rch p e below T181 (mkF m 52 #[vR ta, vI (1 : Int32), vI cc, vI sd] [(.int (48 : Int32)), (.int cc)]) _
        by_cases g1 : cc < (48 : Int32)
        · skip
          refine Rch.st (fun _ k => XS.icmpYes X181.here hx rfl (pc0 := 52) (pc' := 65) rfl (hb hby dit_52) rfl (tlt g1).1 (by decide) (by decide) k) ?_
          show Rch p e below T181 (mkF m 65 #[vR ta, vI (1 : Int32), vI cc, vI sd] []) _
          exact t65 0 (al_no z1 z2 (Or.inl g1))
        · skip
          refine Rch.st (fun _ k => XS.icmpNo X181.here hx rfl (hb hby dit_52) rfl (flt g1).1 k) ?_
          refine Rch.st (fun _ k => XS.iloadN X181.here hx rfl (hb hby dit_55) rfl k) ?_
          show Rch p e below T181 (mkF m 56 #[vR ta, vI (1 : Int32), vI cc, vI sd] [(.int cc)]) _
          refine Rch.st (fun _ k => XS.bipush X181.here hx rfl (hb hby dit_56)  k) ?_
          show Rch p e below T181 (mkF m 58 #[vR ta, vI (1 : Int32), vI cc, vI sd] [(.int (57 : Int32)), (.int cc)]) _
          by_cases g2 : (57 : Int32) < cc
          · skip
            refine Rch.st (fun _ k => XS.icmpYes X181.here hx rfl (pc0 := 58) (pc' := 65) rfl (hb hby dit_58) rfl (tlt g2).2.2.1 (by decide) (by decide) k) ?_
            show Rch p e below T181 (mkF m 65 #[vR ta, vI (1 : Int32), vI cc, vI sd] []) _
            exact t65 0 (al_no z1 z2 (Or.inr g2))
          · skip
            refine Rch.st (fun _ k => XS.icmpNo X181.here hx rfl (hb hby dit_58) rfl (flt g2).2.2.1 k) ?_
            show Rch p e below T181 (mkF m 61 #[vR ta, vI (1 : Int32), vI cc, vI sd] []) _
            exact t61 0 (al_3 g1 g2)
      have t37 : ∀ (u : Int32), cc < (97 : Int32) ∨ (122 : Int32) < cc → Rch p e below T181 (mkF m 37 #[vR ta, vI (1 : Int32), vI cc, vI sd] []) (fun U o => ∃ v L, o = .returned v ∧ Q_isTok Z ta cs fm h0 n0 v U.heap L ∧ CHr Z EL s.vm s.heap U.vm U.heap ∧ ReturnedEndW s o U L ({ frames := 5, cells := 8, slots := 256, locals := 66 } : Room).cells ({ frames := 5, cells := 8, slots := 256, locals := 66 } : Room).slots) := by
        intro u z1
        show Rch p e below T181 (mkF m 37 #[vR ta, vI (1 : Int32), vI cc, vI sd] []) _
        refine Rch.st (fun _ k => XS.iloadN X181.here hx rfl (hb hby dit_37) rfl k) ?_
        refine Rch.st (fun _ k => XS.bipush X181.here hx rfl (hb hby dit_38)  k) ?_
        show Rch p e below T181 (mkF m 40 #[vR ta, vI (1 : Int32), vI cc, vI sd] [(.int (65 : Int32)), (.int cc)]) _
        by_cases g1 : cc < (65 : Int32)
        · skip
          refine Rch.st (fun _ k => XS.icmpYes X181.here hx rfl (pc0 := 40) (pc' := 49) rfl (hb hby dit_40) rfl (tlt g1).1 (by decide) (by decide) k) ?_
          show Rch p e below T181 (mkF m 49 #[vR ta, vI (1 : Int32), vI cc, vI sd] []) _
          exact t49 0 z1 (Or.inl g1)
        · skip
          refine Rch.st (fun _ k => XS.icmpNo X181.here hx rfl (hb hby dit_40) rfl (flt g1).1 k) ?_
          refine Rch.st (fun _ k => XS.iloadN X181.here hx rfl (hb hby dit_43) rfl k) ?_
          show Rch p e below T181 (mkF m 44 #[vR ta, vI (1 : Int32), vI cc, vI sd] [(.int cc)]) _
          refine Rch.st (fun _ k => XS.bipush X181.here hx rfl (hb hby dit_44)  k) ?_
          show Rch p e below T181 (mkF m 46 #[vR ta, vI (1 : Int32), vI cc, vI sd] [(.int (90 : Int32)), (.int cc)]) _
          by_cases g2 : (90 : Int32) < cc
          · skip
            refine Rch.st (fun _ k => XS.icmpNo X181.here hx rfl (hb hby dit_46) rfl (tlt g2).2.2.2 k) ?_
            show Rch p e below T181 (mkF m 49 #[vR ta, vI (1 : Int32), vI cc, vI sd] []) _
            exact t49 0 z1 (Or.inr g2)
          · skip
            refine Rch.st (fun _ k => XS.icmpYes X181.here hx rfl (pc0 := 46) (pc' := 61) rfl (hb hby dit_46) rfl (flt g2).2.2.2 (by decide) (by decide) k) ?_
            show Rch p e below T181 (mkF m 61 #[vR ta, vI (1 : Int32), vI cc, vI sd] []) _
            exact t61 0 (al_2 g1 g2)
      by_cases g1 : cc < (97 : Int32)
      · skip
        refine Rch.st (fun _ k => XS.icmpYes X181.here hx rfl (pc0 := 28) (pc' := 37) rfl (hb hby dit_28) rfl (tlt g1).1 (by decide) (by decide) k) ?_
        show Rch p e below T181 (mkF m 37 #[vR ta, vI (1 : Int32), vI cc, vI sd] []) _
        exact t37 0 (Or.inl g1)
      · skip
        refine Rch.st (fun _ k => XS.icmpNo X181.here hx rfl (hb hby dit_28) rfl (flt g1).1 k) ?_
        refine Rch.st (fun _ k => XS.iloadN X181.here hx rfl (hb hby dit_31) rfl k) ?_
        show Rch p e below T181 (mkF m 32 #[vR ta, vI (1 : Int32), vI cc, vI sd] [(.int cc)]) _
        refine Rch.st (fun _ k => XS.bipush X181.here hx rfl (hb hby dit_32)  k) ?_
        show Rch p e below T181 (mkF m 34 #[vR ta, vI (1 : Int32), vI cc, vI sd] [(.int (122 : Int32)), (.int cc)]) _
        by_cases g2 : (122 : Int32) < cc
        · skip
          refine Rch.st (fun _ k => XS.icmpNo X181.here hx rfl (hb hby dit_34) rfl (tlt g2).2.2.2 k) ?_
          show Rch p e below T181 (mkF m 37 #[vR ta, vI (1 : Int32), vI cc, vI sd] []) _
          exact t37 0 (Or.inr g2)
        · skip
          refine Rch.st (fun _ k => XS.icmpYes X181.here hx rfl (pc0 := 34) (pc' := 61) rfl (hb hby dit_34) rfl (flt g2).2.2.2 (by decide) (by decide) k) ?_
          show Rch p e below T181 (mkF m 61 #[vR ta, vI (1 : Int32), vI cc, vI sd] []) _
          exact t61 0 (al_1 g1 g2)
    · skip
      have hge : cs.length ≤ 1 := Nat.le_of_not_lt hlt
      have hge' : ¬ (1 : Int32) < Int32.ofNat cs.length := ofN_le hge (by decide)
      refine Rch.st (fun _ k => XS.icmpYes X180.here hx rfl (pc0 := 16) (pc' := 88) rfl (hb hby dit_16) rfl (flt hge').2.1 (by decide) (by decide) k) ?_
      refine Rch.st (fun _ k => XS.iconst X180.here hx rfl (hb hby dit_88)  k) ?_
      show Rch p e below T180 (mkF m 89 #[vR ta, vI (1 : Int32), vI sc, vI sd] [(.int (1 : Int32))]) _
      have hyes : (¬ cs = [] ∧ ∀ c ∈ cs, tokB c = true) := ⟨hne, fun c hc => by
        obtain ⟨j, hj, rfl⟩ := List.getElem_of_mem hc
        have := ht j (by omega)
        rwa [show cs.getD j 0 = cs[j] by simp [List.getD_eq_getElem?_getD, hj]] at this⟩
      exact Rch.finW (Q := Q_isTok Z ta cs fm h0 n0) X180 hZ179 hEL hS179 (by rw [e180]; exact hk179) e180 R179 (v := some (.int (1 : Int32))) (fun h => by rw [Bd.returns] at h; cases h) (BodyLoose.notSynchronized Bd) (fun fs hr => retN X180 hx (t := .boolean) Bd.returns (by simp) (hb hby dit_89) hr) (by rw [e180]; exact ⟨1, rfl, N180, Ex179, fun _ => rfl, fun q => absurd hyes q⟩) (by decide) (by decide)
  have it0 : ∀ (T186 : State) (lc186 : List Loc) (h186 : Heap) (vm186 : Vm) (k0_186 : Nat) , Stand p l e ({ frames := 5, cells := 8, slots := 256, locals := 66 } : Room) (s.setVm vm186) m #[(.ref ta)] below meth c T186 lc186 0 0 → T186.heap = h186 → Fr n0 lc186 → Ext h0 h186 → s.Since vm186 k0_186 → k0_186 ≤ h186.size → Z.Warmed39 (s.setVm vm186).vm → (s.setVm vm186).vm.findClass "com/example/permitd/permitd/http/Headers" = some m.cls → CHr Z EL s.vm s.heap vm186 h186 → (0 ≤ cs.length) → (∀ j, j < 0 → tokB (cs.getD j 0) = true) → Rch p e below T186 (mkF m 11 #[vR ta, vI (0 : Int32), .unset, .unset] []) (fun U o => ∃ v L, o = .returned v ∧ Q_isTok Z ta cs fm h0 n0 v U.heap L ∧ CHr Z EL s.vm s.heap U.vm U.heap ∧ ReturnedEndW s o U L ({ frames := 5, cells := 8, slots := 256, locals := 66 } : Room).cells ({ frames := 5, cells := 8, slots := 256, locals := 66 } : Room).slots) := by
    intro T186 lc186 h186 vm186 k0_186 X186 e186 N186 Ex186 hS186 hk186 hZ186 hown186 R186 hi ht
    show Rch p e below T186 (mkF m 11 #[vR ta, vI (0 : Int32), .unset, .unset] []) _
    refine Rch.st (fun _ k => XS.iloadN X186.here hx rfl (hb hby dit_11) rfl k) ?_
    refine Rch.st (fun _ k => XS.aloadN X186.here hx rfl (hb hby dit_12) rfl rfl k) ?_
    show Rch p e below T186 (mkF m 13 #[vR ta, vI (0 : Int32), .unset, .unset] [(.ref ta), (.int (0 : Int32))]) _
    obtain ⟨cq187, kq187, q187a, q187b, q187c⟩ := isOf hZ186 e186 ((S1.ext Ex186)).exa
    obtain ⟨_, _, ⟨T187, L187, k187, n187⟩, -, X187, ⟨Lc187, hQ187, l187, y187, z187⟩, st187⟩ := X186.virtualBack hx (y := (⟨"java/lang/String", "length", "()I"⟩ : MethodName)) (z := (⟨"java/lang/String", "length", "()I"⟩ : MethodName)) hown186 (mvT hZ186 (wq hw 46 rfl)) (mvT hZ186 (wq hw 47 rfl)) (notFace_of_selects (args := #[]) (mvT hZ186 (wq hw 49 rfl))) (mvT hZ186 (wq hw 49 rfl)) (mvT hZ186 (wq hw 48 rfl)) (by decide) (lenS (W := 1) hZ186 hw (S1.ext Ex186) (B.ext Ex186).1 (by omega) (by decide) (by decide)) q187a q187c (g := (mkF m 13 #[vR ta, vI (0 : Int32), .unset, .unset] [(.ref ta), (.int (0 : Int32))])) rfl (by rw [hml]; rfl) (Steps.refl _) (argsL := []) (rest := [(.int (0 : Int32))]) (lenOf pd_16 rfl) rfl (by show 2 * 0 + _ ≤ _; exact Nat.le_of_eq rfl) (hb hby dit_13) (fun _ _ => ⟨rfl, e186, (by decide : 0 + 0 ≤ _), (by decide : 0 + 0 ≤ _)⟩)
    dsimp only [Pt.U, Pt.locs, Pt.cells, Pt.slots] at X187 l187 y187 z187 st187 hQ187
    subst l187 y187 z187
    obtain ⟨rfl, hL187, e187⟩ := hQ187
    subst hL187
    have Nq187 := Fr.nil n0
    have N187 := Fr.app N186 Nq187
    refine Rch.go st187 ?_
    show Rch p e below T187 (mkF m 16 #[vR ta, vI (0 : Int32), .unset, .unset] [(.int (Int32.ofNat cs.length)), (.int (0 : Int32))]) _
    by_cases hlt : 0 < cs.length
    · skip
      have hlt' : (0 : Int32) < Int32.ofNat cs.length := ofN_lt hlt (by omega)
      refine Rch.st (fun _ k => XS.icmpNo X187.here hx rfl (hb hby dit_16) rfl (tlt hlt').2.1 k) ?_
      refine Rch.st (fun _ k => XS.aloadN X187.here hx rfl (hb hby dit_19) rfl rfl k) ?_
      show Rch p e below T187 (mkF m 20 #[vR ta, vI (0 : Int32), .unset, .unset] [(.ref ta)]) _
      refine Rch.st (fun _ k => XS.iloadN X187.here hx rfl (hb hby dit_20) rfl k) ?_
      show Rch p e below T187 (mkF m 21 #[vR ta, vI (0 : Int32), .unset, .unset] [(.int (0 : Int32)), (.ref ta)]) _
      obtain ⟨cq188, kq188, q188a, q188b, q188c⟩ := isOf hZ186 e187 ((S1.ext Ex186)).exa
      obtain ⟨_, _, ⟨T188, L188, k188, n188⟩, -, X188, ⟨Lc188, hQ188, l188, y188, z188⟩, st188⟩ := X187.virtualBack hx (y := (⟨"java/lang/String", "charAt", "(I)C"⟩ : MethodName)) (z := (⟨"java/lang/String", "charAt", "(I)C"⟩ : MethodName)) hown186 (mvT hZ186 (wq hw 56 rfl)) (mvT hZ186 (wq hw 57 rfl)) (notFace_of_selects (args := #[]) (mvT hZ186 (wq hw 59 rfl))) (mvT hZ186 (wq hw 59 rfl)) (mvT hZ186 (wq hw 58 rfl)) (by decide) (chS (W := 0) hZ186 hw (S1.ext Ex186) (B.ext Ex186) 0 hlt (by omega) n0 (Nat.le_trans Z0 Ex186.1) (by decide) (by decide)) q188a q188c (g := (mkF m 21 #[vR ta, vI (0 : Int32), .unset, .unset] [(.int (0 : Int32)), (.ref ta)])) rfl (by rw [hml]; rfl) (Steps.refl _) (argsL := [(.int (0 : Int32))]) (rest := []) (lenOf pd_17 rfl) rfl (by show 2 * 0 + _ ≤ _; exact Nat.le_of_eq rfl) (hb hby dit_21) (fun _ _ => ⟨rfl, e187, (by decide : 0 + 0 ≤ _), (by decide : 0 + 0 ≤ _)⟩)
      dsimp only [Pt.U, Pt.locs, Pt.cells, Pt.slots] at X188 l188 y188 z188 st188 hQ188
      subst l188 y188 z188
      obtain ⟨rfl, Nq188, e188⟩ := hQ188
      have N188 := Fr.app N187 Nq188
      refine Rch.go st188 ?_
      show Rch p e below T188 (mkF m 24 #[vR ta, vI (0 : Int32), .unset, .unset] [(.int (cs.getD 0 0))]) _
      have hcm : ¬ cs.getD 0 0 < 0 := by
        have e : cs.getD 0 0 = cs[0] := by simp [List.getD_eq_getElem?_getD, hlt]
        rw [e]; exact (S1.bd _ (List.getElem_mem _)).1
      generalize hc : cs.getD 0 0 = cc at hcm ⊢
      show Rch p e below T188 (mkF m 24 #[vR ta, vI (0 : Int32), .unset, .unset] [(.int cc)]) _
      refine Rch.st (fun _ k => XS.istoreN X188.here hx rfl (hb hby dit_24) rfl (l' := #[vR ta, vI (0 : Int32), vI cc, .unset]) rfl k) ?_
      refine Rch.st (fun _ k => XS.iloadN X188.here hx rfl (hb hby dit_25) rfl k) ?_
      show Rch p e below T188 (mkF m 26 #[vR ta, vI (0 : Int32), vI cc, .unset] [(.int cc)]) _
      refine Rch.st (fun _ k => XS.bipush X188.here hx rfl (hb hby dit_26)  k) ?_
      show Rch p e below T188 (mkF m 28 #[vR ta, vI (0 : Int32), vI cc, .unset] [(.int (97 : Int32)), (.int cc)]) _
      have t61 : ∀ (u : Int32), alB cc = true → Rch p e below T188 (mkF m 61 #[vR ta, vI (0 : Int32), vI cc, .unset] []) (fun U o => ∃ v L, o = .returned v ∧ Q_isTok Z ta cs fm h0 n0 v U.heap L ∧ CHr Z EL s.vm s.heap U.vm U.heap ∧ ReturnedEndW s o U L ({ frames := 5, cells := 8, slots := 256, locals := 66 } : Room).cells ({ frames := 5, cells := 8, slots := 256, locals := 66 } : Room).slots) := by
        intro u ha
        show Rch p e below T188 (mkF m 61 #[vR ta, vI (0 : Int32), vI cc, .unset] []) _
        refine Rch.st (fun _ k => XS.iconst X188.here hx rfl (hb hby dit_61)  k) ?_
        refine Rch.st (fun _ k => XS.goto X188.here hx rfl (pc0 := 62) (pc' := 66) rfl (hb hby dit_62) (by decide) (by decide) k) ?_
        show Rch p e below T188 (mkF m 66 #[vR ta, vI (0 : Int32), vI cc, .unset] [(.int (1 : Int32))]) _
        refine Rch.st (fun _ k => XS.istoreN X188.here hx rfl (hb hby dit_66) rfl (l' := #[vR ta, vI (0 : Int32), vI cc, vI (1 : Int32)]) rfl k) ?_
        refine Rch.st (fun _ k => XS.iloadN X188.here hx rfl (hb hby dit_67) rfl k) ?_
        show Rch p e below T188 (mkF m 68 #[vR ta, vI (0 : Int32), vI cc, vI (1 : Int32)] [(.int (1 : Int32))]) _
        refine Rch.st (fun _ k => XS.ifYes X188.here hx rfl (pc0 := 68) (pc' := 82) rfl (hb hby dit_68) rfl (by decide : ifCond.holds .ne (1 : Int32) = true) (by decide) (by decide) k) ?_
        refine Rch.st (fun _ k => XS.iinc X188.here hx rfl (hb hby dit_82) rfl (l' := #[vR ta, vI (1 : Int32), vI cc, vI (1 : Int32)]) rfl k) ?_
        show Rch p e below T188 (mkF m 85 #[vR ta, vI (1 : Int32), vI cc, vI (1 : Int32)] []) _
        refine Rch.st (fun _ k => XS.goto X188.here hx rfl (pc0 := 85) (pc' := 11) rfl (hb hby dit_85) (by decide) (by decide) k) ?_
        show Rch p e below T188 (mkF m 11 #[vR ta, vI (1 : Int32), vI cc, vI (1 : Int32)] []) _
        exact it1 _ _ _ _ _ _ _ (X188.mono (by decide) (by decide)) e188 N188 Ex186 hS186 hk186 hZ186 hown186 R186 hlt (fun j hj => (Nat.lt_or_eq_of_le (Nat.le_of_lt_succ hj)).elim (ht j) (fun q => by subst q; rw [hc]; exact tok_al ha))
      have t65 : ∀ (u : Int32), ¬ alB cc = true → Rch p e below T188 (mkF m 65 #[vR ta, vI (0 : Int32), vI cc, .unset] []) (fun U o => ∃ v L, o = .returned v ∧ Q_isTok Z ta cs fm h0 n0 v U.heap L ∧ CHr Z EL s.vm s.heap U.vm U.heap ∧ ReturnedEndW s o U L ({ frames := 5, cells := 8, slots := 256, locals := 66 } : Room).cells ({ frames := 5, cells := 8, slots := 256, locals := 66 } : Room).slots) := by
        intro u ha
        show Rch p e below T188 (mkF m 65 #[vR ta, vI (0 : Int32), vI cc, .unset] []) _
        refine Rch.st (fun _ k => XS.iconst X188.here hx rfl (hb hby dit_65)  k) ?_
        refine Rch.st (fun _ k => XS.istoreN X188.here hx rfl (hb hby dit_66) rfl (l' := #[vR ta, vI (0 : Int32), vI cc, vI (0 : Int32)]) rfl k) ?_
        show Rch p e below T188 (mkF m 67 #[vR ta, vI (0 : Int32), vI cc, vI (0 : Int32)] []) _
        refine Rch.st (fun _ k => XS.iloadN X188.here hx rfl (hb hby dit_67) rfl k) ?_
        refine Rch.st (fun _ k => XS.ifNo X188.here hx rfl (hb hby dit_68) rfl (by decide : ifCond.holds .ne (0 : Int32) = false) k) ?_
        show Rch p e below T188 (mkF m 71 #[vR ta, vI (0 : Int32), vI cc, vI (0 : Int32)] []) _
        obtain ⟨a189, T189, h189, kk189, b189, kb189, X189, e189, E189, hS189, hk189, hZ189, hown189, EX189, CO189, VA189, AR189, la189, lb189, CR189, LT189, SF189, st189⟩ := ldcCH X188 hx hZ186 hown186 (wq hw 78 rfl) wS e188 hS186 hk186 hEL (by simp [EL]) R186.1 (vs := ([33, 35, 36, 37, 38, 39, 42, 43, 45, 46, 94, 95, 96, 124, 126] : List Int32).map (fun c => Value.int c.toInt8.toInt32)) (z := (15 : Int32)) ⟨by decide, by decide⟩ (by decide) rfl (g := (mkF m 71 #[vR ta, vI (0 : Int32), vI cc, vI (0 : Int32)] [])) rfl (hb hby dit_71) (n := 60) (by decide) (by decide) (by decide) (by decide)
        have Ex190 : Ext h0 h189 := Ex186.tr E189
        have Ex191 : Ext h186 h189 := E189
        have R189 := R186.trans CR189
        have Q189 : StrA Z h189 a189 ([33, 35, 36, 37, 38, 39, 42, 43, 45, 46, 94, 95, 96, 124, 126] : List Int32) := strOf (n := 15) rfl rfl (by decide) EX189 VA189 CO189 (by rw [List.map_map]; exact AR189)
        refine Rch.st st189 ?_
        show Rch p e below T189 (mkF m 73 #[vR ta, vI (0 : Int32), vI cc, vI (0 : Int32)] [(.ref a189)]) _
        refine Rch.st (fun _ k => XS.iloadN X189.here hx rfl (hb hby dit_73) rfl k) ?_
        show Rch p e below T189 (mkF m 74 #[vR ta, vI (0 : Int32), vI cc, vI (0 : Int32)] [(.int cc), (.ref a189)]) _
        obtain ⟨cq192, kq192, q192a, q192b, q192c⟩ := isOf hZ189 e189 EX189
        obtain ⟨_, _, ⟨T192, L192, k192, n192⟩, -, X192, ⟨Lc192, hQ192, l192, y192, z192⟩, st192⟩ := X189.virtualBack hx (y := (⟨"java/lang/String", "indexOf", "(I)I"⟩ : MethodName)) (z := (⟨"java/lang/String", "indexOf", "(I)I"⟩ : MethodName)) hown189 (mvT hZ189 (wq hw 79 rfl)) (mvT hZ189 (wq hw 80 rfl)) (notFace_of_selects (args := #[]) (mvT hZ189 (wq hw 82 rfl))) (mvT hZ189 (wq hw 82 rfl)) (mvT hZ189 (wq hw 81 rfl)) (by decide) (backOf (W := 0) (rm_idx1 l Z a0 hw [] a189 b189 kb189 cc h189 n0 (Nat.le_trans Z0 Ex190.1) (B.ext Ex190).1 EX189 VA189 CO189 Q189 hcm AR189) hZ189 (wq hw 83 rfl) (wq hw 3 rfl) (by decide) (by decide)) q192a q192c (g := (mkF m 74 #[vR ta, vI (0 : Int32), vI cc, vI (0 : Int32)] [(.int cc), (.ref a189)])) rfl (by rw [hml]; rfl) (Steps.refl _) (argsL := [(.int cc)]) (rest := []) (lenOf pd_7 rfl) rfl (by show 2 * 0 + _ ≤ _; exact Nat.le_of_eq rfl) (hb hby dit_74) (fun _ _ => ⟨rfl, e189, (by decide : 2 + 0 ≤ _), (by decide : 64 + 0 ≤ _)⟩)
        dsimp only [Pt.U, Pt.locs, Pt.cells, Pt.slots] at X192 l192 y192 z192 st192 hQ192
        subst l192 y192 z192
        obtain ⟨r192, rfl, Nq192, e192, u192, v192⟩ := hQ192
        have N192 := Fr.app N188 Nq192
        refine Rch.go st192 ?_
        show Rch p e below T192 (mkF m 77 #[vR ta, vI (0 : Int32), vI cc, vI (0 : Int32)] [(.int r192)]) _
        by_cases hs : symB cc = true
        · skip
          have hr := u192 hs
          refine Rch.st (fun _ k => XS.ifYes X192.here hx rfl (pc0 := 77) (pc' := 82) rfl (hb hby dit_77) rfl ((if0 _ _).trans (flt hr).2.1) (by decide) (by decide) k) ?_
          refine Rch.st (fun _ k => XS.iinc X192.here hx rfl (hb hby dit_82) rfl (l' := #[vR ta, vI (1 : Int32), vI cc, vI (0 : Int32)]) rfl k) ?_
          show Rch p e below T192 (mkF m 85 #[vR ta, vI (1 : Int32), vI cc, vI (0 : Int32)] []) _
          refine Rch.st (fun _ k => XS.goto X192.here hx rfl (pc0 := 85) (pc' := 11) rfl (hb hby dit_85) (by decide) (by decide) k) ?_
          show Rch p e below T192 (mkF m 11 #[vR ta, vI (1 : Int32), vI cc, vI (0 : Int32)] []) _
          exact it1 _ _ _ _ _ _ _ X192 e192 N192 Ex190 hS189 hk189 hZ189 hown189 R189 hlt (fun j hj => (Nat.lt_or_eq_of_le (Nat.le_of_lt_succ hj)).elim (ht j) (fun q => by subst q; rw [hc]; exact tok_sy hs))
        · skip
          have hr := v192 hs
          refine Rch.st (fun _ k => XS.ifNo X192.here hx rfl (hb hby dit_77) rfl ((if0 _ _).trans (tlt hr).2.1) k) ?_
          refine Rch.st (fun _ k => XS.iconst X192.here hx rfl (hb hby dit_80)  k) ?_
          show Rch p e below T192 (mkF m 81 #[vR ta, vI (0 : Int32), vI cc, vI (0 : Int32)] [(.int (0 : Int32))]) _
          have hno : ¬ (¬ cs = [] ∧ ∀ c ∈ cs, tokB c = true) := fun q => by
            have z := q.2 (cs.getD 0 0) (by rw [show cs.getD 0 0 = cs[0] by simp [List.getD_eq_getElem?_getD, hlt]]; exact List.getElem_mem _)
            rw [hc] at z; exact tok_no ha hs z
          exact Rch.finW (Q := Q_isTok Z ta cs fm h0 n0) X192 hZ189 hEL hS189 (by rw [e192]; exact hk189) e192 R189 (v := some (.int (0 : Int32))) (fun h => by rw [Bd.returns] at h; cases h) (BodyLoose.notSynchronized Bd) (fun fs hr => retN X192 hx (t := .boolean) Bd.returns (by simp) (hb hby dit_81) hr) (by rw [e192]; exact ⟨0, rfl, N192, Ex190, fun q => absurd q hno, fun _ => rfl⟩) (by decide) (by decide)
      have t49 : ∀ (u : Int32), cc < (97 : Int32) ∨ (122 : Int32) < cc → cc < (65 : Int32) ∨ (90 : Int32) < cc → Rch p e below T188 (mkF m 49 #[vR ta, vI (0 : Int32), vI cc, .unset] []) (fun U o => ∃ v L, o = .returned v ∧ Q_isTok Z ta cs fm h0 n0 v U.heap L ∧ CHr Z EL s.vm s.heap U.vm U.heap ∧ ReturnedEndW s o U L ({ frames := 5, cells := 8, slots := 256, locals := 66 } : Room).cells ({ frames := 5, cells := 8, slots := 256, locals := 66 } : Room).slots) := by
        intro u z1 z2
        show Rch p e below T188 (mkF m 49 #[vR ta, vI (0 : Int32), vI cc, .unset] []) _
        refine Rch.st (fun _ k => XS.iloadN X188.here hx rfl (hb hby dit_49) rfl k) ?_
        refine Rch.st (fun _ k => XS.bipush X188.here hx rfl (hb hby dit_50)  k) ?_
        show Rch p e below T188 (mkF m 52 #[vR ta, vI (0 : Int32), vI cc, .unset] [(.int (48 : Int32)), (.int cc)]) _
        by_cases g1 : cc < (48 : Int32)
        · skip
          refine Rch.st (fun _ k => XS.icmpYes X188.here hx rfl (pc0 := 52) (pc' := 65) rfl (hb hby dit_52) rfl (tlt g1).1 (by decide) (by decide) k) ?_
          show Rch p e below T188 (mkF m 65 #[vR ta, vI (0 : Int32), vI cc, .unset] []) _
          exact t65 0 (al_no z1 z2 (Or.inl g1))
        · skip
          refine Rch.st (fun _ k => XS.icmpNo X188.here hx rfl (hb hby dit_52) rfl (flt g1).1 k) ?_
          refine Rch.st (fun _ k => XS.iloadN X188.here hx rfl (hb hby dit_55) rfl k) ?_
          show Rch p e below T188 (mkF m 56 #[vR ta, vI (0 : Int32), vI cc, .unset] [(.int cc)]) _
          refine Rch.st (fun _ k => XS.bipush X188.here hx rfl (hb hby dit_56)  k) ?_
          show Rch p e below T188 (mkF m 58 #[vR ta, vI (0 : Int32), vI cc, .unset] [(.int (57 : Int32)), (.int cc)]) _
          by_cases g2 : (57 : Int32) < cc
          · skip
            refine Rch.st (fun _ k => XS.icmpYes X188.here hx rfl (pc0 := 58) (pc' := 65) rfl (hb hby dit_58) rfl (tlt g2).2.2.1 (by decide) (by decide) k) ?_
            show Rch p e below T188 (mkF m 65 #[vR ta, vI (0 : Int32), vI cc, .unset] []) _
            exact t65 0 (al_no z1 z2 (Or.inr g2))
          · skip
            refine Rch.st (fun _ k => XS.icmpNo X188.here hx rfl (hb hby dit_58) rfl (flt g2).2.2.1 k) ?_
            show Rch p e below T188 (mkF m 61 #[vR ta, vI (0 : Int32), vI cc, .unset] []) _
            exact t61 0 (al_3 g1 g2)
      have t37 : ∀ (u : Int32), cc < (97 : Int32) ∨ (122 : Int32) < cc → Rch p e below T188 (mkF m 37 #[vR ta, vI (0 : Int32), vI cc, .unset] []) (fun U o => ∃ v L, o = .returned v ∧ Q_isTok Z ta cs fm h0 n0 v U.heap L ∧ CHr Z EL s.vm s.heap U.vm U.heap ∧ ReturnedEndW s o U L ({ frames := 5, cells := 8, slots := 256, locals := 66 } : Room).cells ({ frames := 5, cells := 8, slots := 256, locals := 66 } : Room).slots) := by
        intro u z1
        show Rch p e below T188 (mkF m 37 #[vR ta, vI (0 : Int32), vI cc, .unset] []) _
        refine Rch.st (fun _ k => XS.iloadN X188.here hx rfl (hb hby dit_37) rfl k) ?_
        refine Rch.st (fun _ k => XS.bipush X188.here hx rfl (hb hby dit_38)  k) ?_
        show Rch p e below T188 (mkF m 40 #[vR ta, vI (0 : Int32), vI cc, .unset] [(.int (65 : Int32)), (.int cc)]) _
        by_cases g1 : cc < (65 : Int32)
        · skip
          refine Rch.st (fun _ k => XS.icmpYes X188.here hx rfl (pc0 := 40) (pc' := 49) rfl (hb hby dit_40) rfl (tlt g1).1 (by decide) (by decide) k) ?_
          show Rch p e below T188 (mkF m 49 #[vR ta, vI (0 : Int32), vI cc, .unset] []) _
          exact t49 0 z1 (Or.inl g1)
        · skip
          refine Rch.st (fun _ k => XS.icmpNo X188.here hx rfl (hb hby dit_40) rfl (flt g1).1 k) ?_
          refine Rch.st (fun _ k => XS.iloadN X188.here hx rfl (hb hby dit_43) rfl k) ?_
          show Rch p e below T188 (mkF m 44 #[vR ta, vI (0 : Int32), vI cc, .unset] [(.int cc)]) _
          refine Rch.st (fun _ k => XS.bipush X188.here hx rfl (hb hby dit_44)  k) ?_
          show Rch p e below T188 (mkF m 46 #[vR ta, vI (0 : Int32), vI cc, .unset] [(.int (90 : Int32)), (.int cc)]) _
          by_cases g2 : (90 : Int32) < cc
          · skip
            refine Rch.st (fun _ k => XS.icmpNo X188.here hx rfl (hb hby dit_46) rfl (tlt g2).2.2.2 k) ?_
            show Rch p e below T188 (mkF m 49 #[vR ta, vI (0 : Int32), vI cc, .unset] []) _
            exact t49 0 z1 (Or.inr g2)
          · skip
            refine Rch.st (fun _ k => XS.icmpYes X188.here hx rfl (pc0 := 46) (pc' := 61) rfl (hb hby dit_46) rfl (flt g2).2.2.2 (by decide) (by decide) k) ?_
            show Rch p e below T188 (mkF m 61 #[vR ta, vI (0 : Int32), vI cc, .unset] []) _
            exact t61 0 (al_2 g1 g2)
      by_cases g1 : cc < (97 : Int32)
      · skip
        refine Rch.st (fun _ k => XS.icmpYes X188.here hx rfl (pc0 := 28) (pc' := 37) rfl (hb hby dit_28) rfl (tlt g1).1 (by decide) (by decide) k) ?_
        show Rch p e below T188 (mkF m 37 #[vR ta, vI (0 : Int32), vI cc, .unset] []) _
        exact t37 0 (Or.inl g1)
      · skip
        refine Rch.st (fun _ k => XS.icmpNo X188.here hx rfl (hb hby dit_28) rfl (flt g1).1 k) ?_
        refine Rch.st (fun _ k => XS.iloadN X188.here hx rfl (hb hby dit_31) rfl k) ?_
        show Rch p e below T188 (mkF m 32 #[vR ta, vI (0 : Int32), vI cc, .unset] [(.int cc)]) _
        refine Rch.st (fun _ k => XS.bipush X188.here hx rfl (hb hby dit_32)  k) ?_
        show Rch p e below T188 (mkF m 34 #[vR ta, vI (0 : Int32), vI cc, .unset] [(.int (122 : Int32)), (.int cc)]) _
        by_cases g2 : (122 : Int32) < cc
        · skip
          refine Rch.st (fun _ k => XS.icmpNo X188.here hx rfl (hb hby dit_34) rfl (tlt g2).2.2.2 k) ?_
          show Rch p e below T188 (mkF m 37 #[vR ta, vI (0 : Int32), vI cc, .unset] []) _
          exact t37 0 (Or.inr g2)
        · skip
          refine Rch.st (fun _ k => XS.icmpYes X188.here hx rfl (pc0 := 34) (pc' := 61) rfl (hb hby dit_34) rfl (flt g2).2.2.2 (by decide) (by decide) k) ?_
          show Rch p e below T188 (mkF m 61 #[vR ta, vI (0 : Int32), vI cc, .unset] []) _
          exact t61 0 (al_1 g1 g2)
    · skip
      have hge : cs.length ≤ 0 := Nat.le_of_not_lt hlt
      have hge' : ¬ (0 : Int32) < Int32.ofNat cs.length := ofN_le hge (by decide)
      refine Rch.st (fun _ k => XS.icmpYes X187.here hx rfl (pc0 := 16) (pc' := 88) rfl (hb hby dit_16) rfl (flt hge').2.1 (by decide) (by decide) k) ?_
      refine Rch.st (fun _ k => XS.iconst X187.here hx rfl (hb hby dit_88)  k) ?_
      show Rch p e below T187 (mkF m 89 #[vR ta, vI (0 : Int32), .unset, .unset] [(.int (1 : Int32))]) _
      have hno : ¬ (¬ cs = [] ∧ ∀ c ∈ cs, tokB c = true) := fun q => q.1 (List.eq_nil_of_length_eq_zero (Nat.le_zero.mp hge))
      exact absurd (List.eq_nil_of_length_eq_zero (Nat.le_zero.mp hge)) hne
  refine Rch.st (fun _ k => XS.aloadN X0.here hx rfl (hb hby dit_0) rfl rfl k) ?_
  show Rch p e below s₁ (mkF m 1 #[vR ta, .unset, .unset, .unset] [(.ref ta)]) _
  obtain ⟨cq193, kq193, q193a, q193b, q193c⟩ := isOf hZ e0 S1.exa
  obtain ⟨_, _, ⟨T193, L193, k193, n193⟩, -, X193, ⟨Lc193, hQ193, l193, y193, z193⟩, st193⟩ := X0.virtualBack hx (y := (⟨"java/lang/String", "isEmpty", "()Z"⟩ : MethodName)) (z := (⟨"java/lang/String", "isEmpty", "()Z"⟩ : MethodName)) hown (mvT hZ (wq hw 26 rfl)) (mvT hZ (wq hw 27 rfl)) (notFace_of_selects (args := #[]) (mvT hZ (wq hw 29 rfl))) (mvT hZ (wq hw 29 rfl)) (mvT hZ (wq hw 28 rfl)) (by decide) (empS (W := 0) hZ hw S1 (by omega) (by decide) (by decide)) q193a q193c (g := (mkF m 1 #[vR ta, .unset, .unset, .unset] [(.ref ta)])) rfl (by rw [hml]; rfl) (Steps.refl _) (argsL := []) (rest := []) (lenOf pd_5 rfl) rfl (by show 2 * 0 + _ ≤ _; exact Nat.le_of_eq rfl) (hb hby dit_1) (fun _ _ => ⟨rfl, e0, (by decide : 0 + 0 ≤ _), (by decide : 0 + 0 ≤ _)⟩)
  dsimp only [Pt.U, Pt.locs, Pt.cells, Pt.slots] at X193 l193 y193 z193 st193 hQ193
  subst l193 y193 z193
  obtain ⟨rfl, hL193, e193⟩ := hQ193
  subst hL193
  have Nq193 := Fr.nil n0
  have N193 := Fr.app N0 Nq193
  refine Rch.go st193 ?_
  show Rch p e below T193 (mkF m 4 #[vR ta, .unset, .unset, .unset] [(.int (if cs.length = 0 then 1 else 0))]) _
  rw [if_neg (fun z => hne (List.eq_nil_of_length_eq_zero z))]
  show Rch p e below T193 (mkF m 4 #[vR ta, .unset, .unset, .unset] [(.int (0 : Int32))]) _
  refine Rch.st (fun _ k => XS.ifYes X193.here hx rfl (pc0 := 4) (pc' := 9) rfl (hb hby dit_4) rfl (by decide : ifCond.holds .eq (0 : Int32) = true) (by decide) (by decide) k) ?_
  refine Rch.st (fun _ k => XS.iconst X193.here hx rfl (hb hby dit_9)  k) ?_
  show Rch p e below T193 (mkF m 10 #[vR ta, .unset, .unset, .unset] [(.int (0 : Int32))]) _
  refine Rch.st (fun _ k => XS.istoreN X193.here hx rfl (hb hby dit_10) rfl (l' := #[vR ta, vI (0 : Int32), .unset, .unset]) rfl k) ?_
  show Rch p e below T193 (mkF m 11 #[vR ta, vI (0 : Int32), .unset, .unset] []) _
  exact it0 _ _ _ _ _  X193 e193 N193 Ext.rf hS0 (Nat.zero_le _) hZ hown R0 (Nat.zero_le _) (fun j hj => absurd hj (Nat.not_lt_zero _))
theorem dtk_0 : decode method_3_code 0 = .ok (.iload_n 0, 1) := by decide +kernel
theorem dtk_1 : decode method_3_code 1 = .ok (.bipush 33, 2) := by decide +kernel
theorem dtk_3 : decode method_3_code 3 = .ok (.if_icmp .lt 9, 3) := by decide +kernel
theorem dtk_6 : decode method_3_code 6 = .ok (.iload_n 0, 1) := by decide +kernel
theorem dtk_7 : decode method_3_code 7 = .ok (.bipush 126, 2) := by decide +kernel
theorem dtk_9 : decode method_3_code 9 = .ok (.if_icmp .le 5, 3) := by decide +kernel
theorem dtk_12 : decode method_3_code 12 = .ok (.iconst 0, 1) := by decide +kernel
theorem dtk_13 : decode method_3_code 13 = .ok (.ireturn, 1) := by decide +kernel
theorem dtk_14 : decode method_3_code 14 = .ok (.iload_n 0, 1) := by decide +kernel
theorem dtk_15 : decode method_3_code 15 = .ok (.bipush 34, 2) := by decide +kernel
theorem dtk_17 : decode method_3_code 17 = .ok (.if_icmp .eq 99, 3) := by decide +kernel
theorem dtk_20 : decode method_3_code 20 = .ok (.iload_n 0, 1) := by decide +kernel
theorem dtk_21 : decode method_3_code 21 = .ok (.bipush 40, 2) := by decide +kernel
theorem dtk_23 : decode method_3_code 23 = .ok (.if_icmp .eq 93, 3) := by decide +kernel
theorem dtk_26 : decode method_3_code 26 = .ok (.iload_n 0, 1) := by decide +kernel
theorem dtk_27 : decode method_3_code 27 = .ok (.bipush 41, 2) := by decide +kernel
theorem dtk_29 : decode method_3_code 29 = .ok (.if_icmp .eq 87, 3) := by decide +kernel
theorem dtk_32 : decode method_3_code 32 = .ok (.iload_n 0, 1) := by decide +kernel
theorem dtk_33 : decode method_3_code 33 = .ok (.bipush 44, 2) := by decide +kernel
theorem dtk_35 : decode method_3_code 35 = .ok (.if_icmp .eq 81, 3) := by decide +kernel
theorem dtk_38 : decode method_3_code 38 = .ok (.iload_n 0, 1) := by decide +kernel
theorem dtk_39 : decode method_3_code 39 = .ok (.bipush 47, 2) := by decide +kernel
theorem dtk_41 : decode method_3_code 41 = .ok (.if_icmp .eq 75, 3) := by decide +kernel
theorem dtk_44 : decode method_3_code 44 = .ok (.iload_n 0, 1) := by decide +kernel
theorem dtk_45 : decode method_3_code 45 = .ok (.bipush 58, 2) := by decide +kernel
theorem dtk_47 : decode method_3_code 47 = .ok (.if_icmp .eq 69, 3) := by decide +kernel
theorem dtk_50 : decode method_3_code 50 = .ok (.iload_n 0, 1) := by decide +kernel
theorem dtk_51 : decode method_3_code 51 = .ok (.bipush 59, 2) := by decide +kernel
theorem dtk_53 : decode method_3_code 53 = .ok (.if_icmp .eq 63, 3) := by decide +kernel
theorem dtk_56 : decode method_3_code 56 = .ok (.iload_n 0, 1) := by decide +kernel
theorem dtk_57 : decode method_3_code 57 = .ok (.bipush 60, 2) := by decide +kernel
theorem dtk_59 : decode method_3_code 59 = .ok (.if_icmp .eq 57, 3) := by decide +kernel
theorem dtk_62 : decode method_3_code 62 = .ok (.iload_n 0, 1) := by decide +kernel
theorem dtk_63 : decode method_3_code 63 = .ok (.bipush 61, 2) := by decide +kernel
theorem dtk_65 : decode method_3_code 65 = .ok (.if_icmp .eq 51, 3) := by decide +kernel
theorem dtk_68 : decode method_3_code 68 = .ok (.iload_n 0, 1) := by decide +kernel
theorem dtk_69 : decode method_3_code 69 = .ok (.bipush 62, 2) := by decide +kernel
theorem dtk_71 : decode method_3_code 71 = .ok (.if_icmp .eq 45, 3) := by decide +kernel
theorem dtk_74 : decode method_3_code 74 = .ok (.iload_n 0, 1) := by decide +kernel
theorem dtk_75 : decode method_3_code 75 = .ok (.bipush 63, 2) := by decide +kernel
theorem dtk_77 : decode method_3_code 77 = .ok (.if_icmp .eq 39, 3) := by decide +kernel
theorem dtk_80 : decode method_3_code 80 = .ok (.iload_n 0, 1) := by decide +kernel
theorem dtk_81 : decode method_3_code 81 = .ok (.bipush 64, 2) := by decide +kernel
theorem dtk_83 : decode method_3_code 83 = .ok (.if_icmp .eq 33, 3) := by decide +kernel
theorem dtk_86 : decode method_3_code 86 = .ok (.iload_n 0, 1) := by decide +kernel
theorem dtk_87 : decode method_3_code 87 = .ok (.bipush 91, 2) := by decide +kernel
theorem dtk_89 : decode method_3_code 89 = .ok (.if_icmp .eq 27, 3) := by decide +kernel
theorem dtk_92 : decode method_3_code 92 = .ok (.iload_n 0, 1) := by decide +kernel
theorem dtk_93 : decode method_3_code 93 = .ok (.bipush 92, 2) := by decide +kernel
theorem dtk_95 : decode method_3_code 95 = .ok (.if_icmp .eq 21, 3) := by decide +kernel
theorem dtk_98 : decode method_3_code 98 = .ok (.iload_n 0, 1) := by decide +kernel
theorem dtk_99 : decode method_3_code 99 = .ok (.bipush 93, 2) := by decide +kernel
theorem dtk_101 : decode method_3_code 101 = .ok (.if_icmp .eq 15, 3) := by decide +kernel
theorem dtk_104 : decode method_3_code 104 = .ok (.iload_n 0, 1) := by decide +kernel
theorem dtk_105 : decode method_3_code 105 = .ok (.bipush 123, 2) := by decide +kernel
theorem dtk_107 : decode method_3_code 107 = .ok (.if_icmp .eq 9, 3) := by decide +kernel
theorem dtk_110 : decode method_3_code 110 = .ok (.iload_n 0, 1) := by decide +kernel
theorem dtk_111 : decode method_3_code 111 = .ok (.bipush 125, 2) := by decide +kernel
theorem dtk_113 : decode method_3_code 113 = .ok (.if_icmp .ne 7, 3) := by decide +kernel
theorem dtk_116 : decode method_3_code 116 = .ok (.iconst 1, 1) := by decide +kernel
theorem dtk_117 : decode method_3_code 117 = .ok (.goto 4, 3) := by decide +kernel
theorem dtk_120 : decode method_3_code 120 = .ok (.iconst 0, 1) := by decide +kernel
theorem dtk_121 : decode method_3_code 121 = .ok (.istore_n 1, 1) := by decide +kernel
theorem dtk_122 : decode method_3_code 122 = .ok (.iload_n 1, 1) := by decide +kernel
theorem dtk_123 : decode method_3_code 123 = .ok (.ifCond .ne 7, 3) := by decide +kernel
theorem dtk_126 : decode method_3_code 126 = .ok (.iconst 1, 1) := by decide +kernel
theorem dtk_127 : decode method_3_code 127 = .ok (.goto 4, 3) := by decide +kernel
theorem dtk_130 : decode method_3_code 130 = .ok (.iconst 0, 1) := by decide +kernel
theorem dtk_131 : decode method_3_code 131 = .ok (.ireturn, 1) := by decide +kernel
theorem pn_tok : plainFor (⟨"com/example/permitd/permitd/http/HeadersIsTokenPinLaw", "tok", "(C)Z"⟩ : MethodName) = true := by first | exact plainFor_of_name (by first | (simp [plainName, overriddenIn]; done) | decide +kernel) | exact Jvm.Free.JP.mathPlain rfl (by decide +kernel)
theorem ef_tok (m : MethodId) (x0 : Int32) : entryFrame m #[(.int x0)] 2 = mkF m 0 #[vI x0, .unset] [] := by first | (simp [entryFrame, mkF, argsToLocals, Value.category]; done) | rfl
def Q_tok (Z : State) (ch : Int32) (h0 : Heap) (n0 : Nat) (v : Option Value) (h : Heap) (L : List Loc) : Prop := ∃ r, v = some (.int r) ∧ Fr n0 L ∧ h = h0 ∧ (tokB ch = true → r = 1) ∧ (¬ tokB ch = true → r = 0)
set_option maxRecDepth 65536 in
set_option maxHeartbeats 40000000 in
theorem rm_tok (l : Launch) (Z : State) (a0 : Array Value) (hw : ∀ d ∈ tables_1, d.before a0 Z = true) (ws : List Jvm.Cond) (ch : Int32) (h0 : Heap) (n0 : Nat) (Z0 : n0 ≤ h0.size) (hc : ¬ ch < 0) :
    MetFree l (⟨"com/example/permitd/permitd/http/HeadersIsTokenPinLaw", "tok", "(C)Z"⟩ : MethodName) (head1 (Jvm.Cond.code (⟨"com/example/permitd/permitd/http/HeadersIsTokenPinLaw", "tok", "(C)Z"⟩ : MethodName) method_3_code 2 (some .boolean) :: ws) ({ frames := 0, cells := 0, slots := 0, locals := 0 } : Room)) (fun a U => a = #[(.int ch)] ∧ Z.Warmed39 U.vm ∧ U.heap = h0) (fun _ _ _ _ _ => True) (fun _ U o U' => ∃ v L, o = .returned v ∧ Q_tok Z ch h0 n0 v U'.heap L ∧ FrameEnd U o U' L ({ frames := 0, cells := 0, slots := 0, locals := 0 } : Room).cells ({ frames := 0, cells := 0, slots := 0, locals := 0 } : Room).slots) := by
  refine MetFree.of_bodySF pn_tok hisR ?_
  intro p e s m args below meth c s₁ Bd hml0 hP hK
  obtain ⟨rfl, hZ, hh⟩ := hP
  have hx := Bd.exec
  have hby := Bd.bytes
  have hml : c.maxLocals = 2 := hml0
  have hown : s.vm.findClass "com/example/permitd/permitd/http/HeadersIsTokenPinLaw" = some m.cls := findClass_of_methodNamed Bd.named
  have hnm := (name_of_methodNamed Bd.named Bd.method).1
  have X0 : Stand p l e ({ frames := 0, cells := 0, slots := 0, locals := 0 } : Room) s m #[(.int ch)] below meth c s₁ [] 0 0 := Stand.of_body Bd
  have e0 : s₁.heap = h0 := by rw [← hh, Bd.state]; rfl
  have N0 := Fr.nil n0
  show Rch p e below s₁ (entryFrame m #[(.int ch)] 2) (fun U o => ∃ v L, o = .returned v ∧ Q_tok Z ch h0 n0 v U.heap L ∧ FrameEnd s o U L ({ frames := 0, cells := 0, slots := 0, locals := 0 } : Room).cells ({ frames := 0, cells := 0, slots := 0, locals := 0 } : Room).slots)
  refine Rch.cast (ef_tok m ch) ?_
  show Rch p e below s₁ (mkF m 0 #[vI ch, .unset] []) _
  refine Rch.st (fun _ k => XS.iloadN X0.here hx rfl (hb hby dtk_0) rfl k) ?_
  refine Rch.st (fun _ k => XS.bipush X0.here hx rfl (hb hby dtk_1)  k) ?_
  show Rch p e below s₁ (mkF m 3 #[vI ch, .unset] [(.int (33 : Int32)), (.int ch)]) _
  have t12 : ∀ (u : Int32), ¬ tokB ch = true → Rch p e below s₁ (mkF m 12 #[vI ch, .unset] []) (fun U o => ∃ v L, o = .returned v ∧ Q_tok Z ch h0 n0 v U.heap L ∧ FrameEnd s o U L ({ frames := 0, cells := 0, slots := 0, locals := 0 } : Room).cells ({ frames := 0, cells := 0, slots := 0, locals := 0 } : Room).slots) := by
    intro u hn
    show Rch p e below s₁ (mkF m 12 #[vI ch, .unset] []) _
    refine Rch.st (fun _ k => XS.iconst X0.here hx rfl (hb hby dtk_12)  k) ?_
    show Rch p e below s₁ (mkF m 13 #[vI ch, .unset] [(.int (0 : Int32))]) _
    exact Rch.fin (Q := Q_tok Z ch h0 n0) X0 (v := some (.int (0 : Int32))) (fun h => by rw [Bd.returns] at h; cases h) (BodyLoose.notSynchronized Bd) (fun fs hr => retN X0 hx (t := .boolean) Bd.returns (by simp) (hb hby dtk_13) hr) (by rw [e0]; exact ⟨0, rfl, N0, rfl, fun q => absurd q hn, fun _ => rfl⟩) (by decide) (by decide)
  have t116 : ∀ (u : Int32), ¬ tokB ch = true → Rch p e below s₁ (mkF m 116 #[vI ch, .unset] []) (fun U o => ∃ v L, o = .returned v ∧ Q_tok Z ch h0 n0 v U.heap L ∧ FrameEnd s o U L ({ frames := 0, cells := 0, slots := 0, locals := 0 } : Room).cells ({ frames := 0, cells := 0, slots := 0, locals := 0 } : Room).slots) := by
    intro u hn
    show Rch p e below s₁ (mkF m 116 #[vI ch, .unset] []) _
    refine Rch.st (fun _ k => XS.iconst X0.here hx rfl (hb hby dtk_116)  k) ?_
    refine Rch.st (fun _ k => XS.goto X0.here hx rfl (pc0 := 117) (pc' := 121) rfl (hb hby dtk_117) (by decide) (by decide) k) ?_
    show Rch p e below s₁ (mkF m 121 #[vI ch, .unset] [(.int (1 : Int32))]) _
    refine Rch.st (fun _ k => XS.istoreN X0.here hx rfl (hb hby dtk_121) rfl (l' := #[vI ch, vI (1 : Int32)]) rfl k) ?_
    refine Rch.st (fun _ k => XS.iloadN X0.here hx rfl (hb hby dtk_122) rfl k) ?_
    show Rch p e below s₁ (mkF m 123 #[vI ch, vI (1 : Int32)] [(.int (1 : Int32))]) _
    refine Rch.st (fun _ k => XS.ifYes X0.here hx rfl (pc0 := 123) (pc' := 130) rfl (hb hby dtk_123) rfl (by decide : ifCond.holds .ne (1 : Int32) = true) (by decide) (by decide) k) ?_
    refine Rch.st (fun _ k => XS.iconst X0.here hx rfl (hb hby dtk_130)  k) ?_
    show Rch p e below s₁ (mkF m 131 #[vI ch, vI (1 : Int32)] [(.int (0 : Int32))]) _
    exact Rch.fin (Q := Q_tok Z ch h0 n0) X0 (v := some (.int (0 : Int32))) (fun h => by rw [Bd.returns] at h; cases h) (BodyLoose.notSynchronized Bd) (fun fs hr => retN X0 hx (t := .boolean) Bd.returns (by simp) (hb hby dtk_131) hr) (by rw [e0]; exact ⟨0, rfl, N0, rfl, fun q => absurd q hn, fun _ => rfl⟩) (by decide) (by decide)
  by_cases g1 : ch < (33 : Int32)
  · skip
    refine Rch.st (fun _ k => XS.icmpYes X0.here hx rfl (pc0 := 3) (pc' := 12) rfl (hb hby dtk_3) rfl (tlt g1).1 (by decide) (by decide) k) ?_
    show Rch p e below s₁ (mkF m 12 #[vI ch, .unset] []) _
    exact t12 0 (tok_lo hc g1)
  · skip
    refine Rch.st (fun _ k => XS.icmpNo X0.here hx rfl (hb hby dtk_3) rfl (flt g1).1 k) ?_
    refine Rch.st (fun _ k => XS.iloadN X0.here hx rfl (hb hby dtk_6) rfl k) ?_
    show Rch p e below s₁ (mkF m 7 #[vI ch, .unset] [(.int ch)]) _
    refine Rch.st (fun _ k => XS.bipush X0.here hx rfl (hb hby dtk_7)  k) ?_
    show Rch p e below s₁ (mkF m 9 #[vI ch, .unset] [(.int (126 : Int32)), (.int ch)]) _
    by_cases g2 : (126 : Int32) < ch
    · skip
      refine Rch.st (fun _ k => XS.icmpNo X0.here hx rfl (hb hby dtk_9) rfl (tlt g2).2.2.2 k) ?_
      show Rch p e below s₁ (mkF m 12 #[vI ch, .unset] []) _
      exact t12 0 (tok_hi g2)
    · skip
      refine Rch.st (fun _ k => XS.icmpYes X0.here hx rfl (pc0 := 9) (pc' := 14) rfl (hb hby dtk_9) rfl (flt g2).2.2.2 (by decide) (by decide) k) ?_
      refine Rch.st (fun _ k => XS.iloadN X0.here hx rfl (hb hby dtk_14) rfl k) ?_
      show Rch p e below s₁ (mkF m 15 #[vI ch, .unset] [(.int ch)]) _
      refine Rch.st (fun _ k => XS.bipush X0.here hx rfl (hb hby dtk_15)  k) ?_
      show Rch p e below s₁ (mkF m 17 #[vI ch, .unset] [(.int (34 : Int32)), (.int ch)]) _
      by_cases j0 : ch = (34 : Int32)
      · skip
        refine Rch.st (fun _ k => XS.icmpYes X0.here hx rfl (pc0 := 17) (pc' := 116) rfl (hb hby dtk_17) rfl (teq j0).1 (by decide) (by decide) k) ?_
        show Rch p e below s₁ (mkF m 116 #[vI ch, .unset] []) _
        exact t116 0 (by rw [j0]; decide)
      · skip
        refine Rch.st (fun _ k => XS.icmpNo X0.here hx rfl (hb hby dtk_17) rfl (feq j0).1 k) ?_
        refine Rch.st (fun _ k => XS.iloadN X0.here hx rfl (hb hby dtk_20) rfl k) ?_
        show Rch p e below s₁ (mkF m 21 #[vI ch, .unset] [(.int ch)]) _
        refine Rch.st (fun _ k => XS.bipush X0.here hx rfl (hb hby dtk_21)  k) ?_
        show Rch p e below s₁ (mkF m 23 #[vI ch, .unset] [(.int (40 : Int32)), (.int ch)]) _
        by_cases j1 : ch = (40 : Int32)
        · skip
          refine Rch.st (fun _ k => XS.icmpYes X0.here hx rfl (pc0 := 23) (pc' := 116) rfl (hb hby dtk_23) rfl (teq j1).1 (by decide) (by decide) k) ?_
          show Rch p e below s₁ (mkF m 116 #[vI ch, .unset] []) _
          exact t116 0 (by rw [j1]; decide)
        · skip
          refine Rch.st (fun _ k => XS.icmpNo X0.here hx rfl (hb hby dtk_23) rfl (feq j1).1 k) ?_
          refine Rch.st (fun _ k => XS.iloadN X0.here hx rfl (hb hby dtk_26) rfl k) ?_
          show Rch p e below s₁ (mkF m 27 #[vI ch, .unset] [(.int ch)]) _
          refine Rch.st (fun _ k => XS.bipush X0.here hx rfl (hb hby dtk_27)  k) ?_
          show Rch p e below s₁ (mkF m 29 #[vI ch, .unset] [(.int (41 : Int32)), (.int ch)]) _
          by_cases j2 : ch = (41 : Int32)
          · skip
            refine Rch.st (fun _ k => XS.icmpYes X0.here hx rfl (pc0 := 29) (pc' := 116) rfl (hb hby dtk_29) rfl (teq j2).1 (by decide) (by decide) k) ?_
            show Rch p e below s₁ (mkF m 116 #[vI ch, .unset] []) _
            exact t116 0 (by rw [j2]; decide)
          · skip
            refine Rch.st (fun _ k => XS.icmpNo X0.here hx rfl (hb hby dtk_29) rfl (feq j2).1 k) ?_
            refine Rch.st (fun _ k => XS.iloadN X0.here hx rfl (hb hby dtk_32) rfl k) ?_
            show Rch p e below s₁ (mkF m 33 #[vI ch, .unset] [(.int ch)]) _
            refine Rch.st (fun _ k => XS.bipush X0.here hx rfl (hb hby dtk_33)  k) ?_
            show Rch p e below s₁ (mkF m 35 #[vI ch, .unset] [(.int (44 : Int32)), (.int ch)]) _
            by_cases j3 : ch = (44 : Int32)
            · skip
              refine Rch.st (fun _ k => XS.icmpYes X0.here hx rfl (pc0 := 35) (pc' := 116) rfl (hb hby dtk_35) rfl (teq j3).1 (by decide) (by decide) k) ?_
              show Rch p e below s₁ (mkF m 116 #[vI ch, .unset] []) _
              exact t116 0 (by rw [j3]; decide)
            · skip
              refine Rch.st (fun _ k => XS.icmpNo X0.here hx rfl (hb hby dtk_35) rfl (feq j3).1 k) ?_
              refine Rch.st (fun _ k => XS.iloadN X0.here hx rfl (hb hby dtk_38) rfl k) ?_
              show Rch p e below s₁ (mkF m 39 #[vI ch, .unset] [(.int ch)]) _
              refine Rch.st (fun _ k => XS.bipush X0.here hx rfl (hb hby dtk_39)  k) ?_
              show Rch p e below s₁ (mkF m 41 #[vI ch, .unset] [(.int (47 : Int32)), (.int ch)]) _
              by_cases j4 : ch = (47 : Int32)
              · skip
                refine Rch.st (fun _ k => XS.icmpYes X0.here hx rfl (pc0 := 41) (pc' := 116) rfl (hb hby dtk_41) rfl (teq j4).1 (by decide) (by decide) k) ?_
                show Rch p e below s₁ (mkF m 116 #[vI ch, .unset] []) _
                exact t116 0 (by rw [j4]; decide)
              · skip
                refine Rch.st (fun _ k => XS.icmpNo X0.here hx rfl (hb hby dtk_41) rfl (feq j4).1 k) ?_
                refine Rch.st (fun _ k => XS.iloadN X0.here hx rfl (hb hby dtk_44) rfl k) ?_
                show Rch p e below s₁ (mkF m 45 #[vI ch, .unset] [(.int ch)]) _
                refine Rch.st (fun _ k => XS.bipush X0.here hx rfl (hb hby dtk_45)  k) ?_
                show Rch p e below s₁ (mkF m 47 #[vI ch, .unset] [(.int (58 : Int32)), (.int ch)]) _
                by_cases j5 : ch = (58 : Int32)
                · skip
                  refine Rch.st (fun _ k => XS.icmpYes X0.here hx rfl (pc0 := 47) (pc' := 116) rfl (hb hby dtk_47) rfl (teq j5).1 (by decide) (by decide) k) ?_
                  show Rch p e below s₁ (mkF m 116 #[vI ch, .unset] []) _
                  exact t116 0 (by rw [j5]; decide)
                · skip
                  refine Rch.st (fun _ k => XS.icmpNo X0.here hx rfl (hb hby dtk_47) rfl (feq j5).1 k) ?_
                  refine Rch.st (fun _ k => XS.iloadN X0.here hx rfl (hb hby dtk_50) rfl k) ?_
                  show Rch p e below s₁ (mkF m 51 #[vI ch, .unset] [(.int ch)]) _
                  refine Rch.st (fun _ k => XS.bipush X0.here hx rfl (hb hby dtk_51)  k) ?_
                  show Rch p e below s₁ (mkF m 53 #[vI ch, .unset] [(.int (59 : Int32)), (.int ch)]) _
                  by_cases j6 : ch = (59 : Int32)
                  · skip
                    refine Rch.st (fun _ k => XS.icmpYes X0.here hx rfl (pc0 := 53) (pc' := 116) rfl (hb hby dtk_53) rfl (teq j6).1 (by decide) (by decide) k) ?_
                    show Rch p e below s₁ (mkF m 116 #[vI ch, .unset] []) _
                    exact t116 0 (by rw [j6]; decide)
                  · skip
                    refine Rch.st (fun _ k => XS.icmpNo X0.here hx rfl (hb hby dtk_53) rfl (feq j6).1 k) ?_
                    refine Rch.st (fun _ k => XS.iloadN X0.here hx rfl (hb hby dtk_56) rfl k) ?_
                    show Rch p e below s₁ (mkF m 57 #[vI ch, .unset] [(.int ch)]) _
                    refine Rch.st (fun _ k => XS.bipush X0.here hx rfl (hb hby dtk_57)  k) ?_
                    show Rch p e below s₁ (mkF m 59 #[vI ch, .unset] [(.int (60 : Int32)), (.int ch)]) _
                    by_cases j7 : ch = (60 : Int32)
                    · skip
                      refine Rch.st (fun _ k => XS.icmpYes X0.here hx rfl (pc0 := 59) (pc' := 116) rfl (hb hby dtk_59) rfl (teq j7).1 (by decide) (by decide) k) ?_
                      show Rch p e below s₁ (mkF m 116 #[vI ch, .unset] []) _
                      exact t116 0 (by rw [j7]; decide)
                    · skip
                      refine Rch.st (fun _ k => XS.icmpNo X0.here hx rfl (hb hby dtk_59) rfl (feq j7).1 k) ?_
                      refine Rch.st (fun _ k => XS.iloadN X0.here hx rfl (hb hby dtk_62) rfl k) ?_
                      show Rch p e below s₁ (mkF m 63 #[vI ch, .unset] [(.int ch)]) _
                      refine Rch.st (fun _ k => XS.bipush X0.here hx rfl (hb hby dtk_63)  k) ?_
                      show Rch p e below s₁ (mkF m 65 #[vI ch, .unset] [(.int (61 : Int32)), (.int ch)]) _
                      by_cases j8 : ch = (61 : Int32)
                      · skip
                        refine Rch.st (fun _ k => XS.icmpYes X0.here hx rfl (pc0 := 65) (pc' := 116) rfl (hb hby dtk_65) rfl (teq j8).1 (by decide) (by decide) k) ?_
                        show Rch p e below s₁ (mkF m 116 #[vI ch, .unset] []) _
                        exact t116 0 (by rw [j8]; decide)
                      · skip
                        refine Rch.st (fun _ k => XS.icmpNo X0.here hx rfl (hb hby dtk_65) rfl (feq j8).1 k) ?_
                        refine Rch.st (fun _ k => XS.iloadN X0.here hx rfl (hb hby dtk_68) rfl k) ?_
                        show Rch p e below s₁ (mkF m 69 #[vI ch, .unset] [(.int ch)]) _
                        refine Rch.st (fun _ k => XS.bipush X0.here hx rfl (hb hby dtk_69)  k) ?_
                        show Rch p e below s₁ (mkF m 71 #[vI ch, .unset] [(.int (62 : Int32)), (.int ch)]) _
                        by_cases j9 : ch = (62 : Int32)
                        · skip
                          refine Rch.st (fun _ k => XS.icmpYes X0.here hx rfl (pc0 := 71) (pc' := 116) rfl (hb hby dtk_71) rfl (teq j9).1 (by decide) (by decide) k) ?_
                          show Rch p e below s₁ (mkF m 116 #[vI ch, .unset] []) _
                          exact t116 0 (by rw [j9]; decide)
                        · skip
                          refine Rch.st (fun _ k => XS.icmpNo X0.here hx rfl (hb hby dtk_71) rfl (feq j9).1 k) ?_
                          refine Rch.st (fun _ k => XS.iloadN X0.here hx rfl (hb hby dtk_74) rfl k) ?_
                          show Rch p e below s₁ (mkF m 75 #[vI ch, .unset] [(.int ch)]) _
                          refine Rch.st (fun _ k => XS.bipush X0.here hx rfl (hb hby dtk_75)  k) ?_
                          show Rch p e below s₁ (mkF m 77 #[vI ch, .unset] [(.int (63 : Int32)), (.int ch)]) _
                          by_cases j10 : ch = (63 : Int32)
                          · skip
                            refine Rch.st (fun _ k => XS.icmpYes X0.here hx rfl (pc0 := 77) (pc' := 116) rfl (hb hby dtk_77) rfl (teq j10).1 (by decide) (by decide) k) ?_
                            show Rch p e below s₁ (mkF m 116 #[vI ch, .unset] []) _
                            exact t116 0 (by rw [j10]; decide)
                          · skip
                            refine Rch.st (fun _ k => XS.icmpNo X0.here hx rfl (hb hby dtk_77) rfl (feq j10).1 k) ?_
                            refine Rch.st (fun _ k => XS.iloadN X0.here hx rfl (hb hby dtk_80) rfl k) ?_
                            show Rch p e below s₁ (mkF m 81 #[vI ch, .unset] [(.int ch)]) _
                            refine Rch.st (fun _ k => XS.bipush X0.here hx rfl (hb hby dtk_81)  k) ?_
                            show Rch p e below s₁ (mkF m 83 #[vI ch, .unset] [(.int (64 : Int32)), (.int ch)]) _
                            by_cases j11 : ch = (64 : Int32)
                            · skip
                              refine Rch.st (fun _ k => XS.icmpYes X0.here hx rfl (pc0 := 83) (pc' := 116) rfl (hb hby dtk_83) rfl (teq j11).1 (by decide) (by decide) k) ?_
                              show Rch p e below s₁ (mkF m 116 #[vI ch, .unset] []) _
                              exact t116 0 (by rw [j11]; decide)
                            · skip
                              refine Rch.st (fun _ k => XS.icmpNo X0.here hx rfl (hb hby dtk_83) rfl (feq j11).1 k) ?_
                              refine Rch.st (fun _ k => XS.iloadN X0.here hx rfl (hb hby dtk_86) rfl k) ?_
                              show Rch p e below s₁ (mkF m 87 #[vI ch, .unset] [(.int ch)]) _
                              refine Rch.st (fun _ k => XS.bipush X0.here hx rfl (hb hby dtk_87)  k) ?_
                              show Rch p e below s₁ (mkF m 89 #[vI ch, .unset] [(.int (91 : Int32)), (.int ch)]) _
                              by_cases j12 : ch = (91 : Int32)
                              · skip
                                refine Rch.st (fun _ k => XS.icmpYes X0.here hx rfl (pc0 := 89) (pc' := 116) rfl (hb hby dtk_89) rfl (teq j12).1 (by decide) (by decide) k) ?_
                                show Rch p e below s₁ (mkF m 116 #[vI ch, .unset] []) _
                                exact t116 0 (by rw [j12]; decide)
                              · skip
                                refine Rch.st (fun _ k => XS.icmpNo X0.here hx rfl (hb hby dtk_89) rfl (feq j12).1 k) ?_
                                refine Rch.st (fun _ k => XS.iloadN X0.here hx rfl (hb hby dtk_92) rfl k) ?_
                                show Rch p e below s₁ (mkF m 93 #[vI ch, .unset] [(.int ch)]) _
                                refine Rch.st (fun _ k => XS.bipush X0.here hx rfl (hb hby dtk_93)  k) ?_
                                show Rch p e below s₁ (mkF m 95 #[vI ch, .unset] [(.int (92 : Int32)), (.int ch)]) _
                                by_cases j13 : ch = (92 : Int32)
                                · skip
                                  refine Rch.st (fun _ k => XS.icmpYes X0.here hx rfl (pc0 := 95) (pc' := 116) rfl (hb hby dtk_95) rfl (teq j13).1 (by decide) (by decide) k) ?_
                                  show Rch p e below s₁ (mkF m 116 #[vI ch, .unset] []) _
                                  exact t116 0 (by rw [j13]; decide)
                                · skip
                                  refine Rch.st (fun _ k => XS.icmpNo X0.here hx rfl (hb hby dtk_95) rfl (feq j13).1 k) ?_
                                  refine Rch.st (fun _ k => XS.iloadN X0.here hx rfl (hb hby dtk_98) rfl k) ?_
                                  show Rch p e below s₁ (mkF m 99 #[vI ch, .unset] [(.int ch)]) _
                                  refine Rch.st (fun _ k => XS.bipush X0.here hx rfl (hb hby dtk_99)  k) ?_
                                  show Rch p e below s₁ (mkF m 101 #[vI ch, .unset] [(.int (93 : Int32)), (.int ch)]) _
                                  by_cases j14 : ch = (93 : Int32)
                                  · skip
                                    refine Rch.st (fun _ k => XS.icmpYes X0.here hx rfl (pc0 := 101) (pc' := 116) rfl (hb hby dtk_101) rfl (teq j14).1 (by decide) (by decide) k) ?_
                                    show Rch p e below s₁ (mkF m 116 #[vI ch, .unset] []) _
                                    exact t116 0 (by rw [j14]; decide)
                                  · skip
                                    refine Rch.st (fun _ k => XS.icmpNo X0.here hx rfl (hb hby dtk_101) rfl (feq j14).1 k) ?_
                                    refine Rch.st (fun _ k => XS.iloadN X0.here hx rfl (hb hby dtk_104) rfl k) ?_
                                    show Rch p e below s₁ (mkF m 105 #[vI ch, .unset] [(.int ch)]) _
                                    refine Rch.st (fun _ k => XS.bipush X0.here hx rfl (hb hby dtk_105)  k) ?_
                                    show Rch p e below s₁ (mkF m 107 #[vI ch, .unset] [(.int (123 : Int32)), (.int ch)]) _
                                    by_cases j15 : ch = (123 : Int32)
                                    · skip
                                      refine Rch.st (fun _ k => XS.icmpYes X0.here hx rfl (pc0 := 107) (pc' := 116) rfl (hb hby dtk_107) rfl (teq j15).1 (by decide) (by decide) k) ?_
                                      show Rch p e below s₁ (mkF m 116 #[vI ch, .unset] []) _
                                      exact t116 0 (by rw [j15]; decide)
                                    · skip
                                      refine Rch.st (fun _ k => XS.icmpNo X0.here hx rfl (hb hby dtk_107) rfl (feq j15).1 k) ?_
                                      refine Rch.st (fun _ k => XS.iloadN X0.here hx rfl (hb hby dtk_110) rfl k) ?_
                                      show Rch p e below s₁ (mkF m 111 #[vI ch, .unset] [(.int ch)]) _
                                      refine Rch.st (fun _ k => XS.bipush X0.here hx rfl (hb hby dtk_111)  k) ?_
                                      show Rch p e below s₁ (mkF m 113 #[vI ch, .unset] [(.int (125 : Int32)), (.int ch)]) _
                                      by_cases j16 : ch = (125 : Int32)
                                      · skip
                                        refine Rch.st (fun _ k => XS.icmpNo X0.here hx rfl (hb hby dtk_113) rfl (teq j16).2 k) ?_
                                        show Rch p e below s₁ (mkF m 116 #[vI ch, .unset] []) _
                                        exact t116 0 (by rw [j16]; decide)
                                      · skip
                                        refine Rch.st (fun _ k => XS.icmpYes X0.here hx rfl (pc0 := 113) (pc' := 120) rfl (hb hby dtk_113) rfl (feq j16).2 (by decide) (by decide) k) ?_
                                        refine Rch.st (fun _ k => XS.iconst X0.here hx rfl (hb hby dtk_120)  k) ?_
                                        show Rch p e below s₁ (mkF m 121 #[vI ch, .unset] [(.int (0 : Int32))]) _
                                        refine Rch.st (fun _ k => XS.istoreN X0.here hx rfl (hb hby dtk_121) rfl (l' := #[vI ch, vI (0 : Int32)]) rfl k) ?_
                                        refine Rch.st (fun _ k => XS.iloadN X0.here hx rfl (hb hby dtk_122) rfl k) ?_
                                        show Rch p e below s₁ (mkF m 123 #[vI ch, vI (0 : Int32)] [(.int (0 : Int32))]) _
                                        refine Rch.st (fun _ k => XS.ifNo X0.here hx rfl (hb hby dtk_123) rfl (by decide : ifCond.holds .ne (0 : Int32) = false) k) ?_
                                        refine Rch.st (fun _ k => XS.iconst X0.here hx rfl (hb hby dtk_126)  k) ?_
                                        show Rch p e below s₁ (mkF m 127 #[vI ch, vI (0 : Int32)] [(.int (1 : Int32))]) _
                                        refine Rch.st (fun _ k => XS.goto X0.here hx rfl (pc0 := 127) (pc' := 131) rfl (hb hby dtk_127) (by decide) (by decide) k) ?_
                                        show Rch p e below s₁ (mkF m 131 #[vI ch, vI (0 : Int32)] [(.int (1 : Int32))]) _
                                        have hy : tokB ch = true := tok_in g1 g2 (by simp [j0, j1, j2, j3, j4, j5, j6, j7, j8, j9, j10, j11, j12, j13, j14, j15, j16])
                                        exact Rch.fin (Q := Q_tok Z ch h0 n0) X0 (v := some (.int (1 : Int32))) (fun h => by rw [Bd.returns] at h; cases h) (BodyLoose.notSynchronized Bd) (fun fs hr => retN X0 hx (t := .boolean) Bd.returns (by simp) (hb hby dtk_131) hr) (by rw [e0]; exact ⟨1, rfl, N0, rfl, fun _ => rfl, fun q => absurd hy q⟩) (by decide) (by decide)
theorem rem5 (x : Int32) : (x &&& (7 : Int32)) % (5 : Int32) = 0 ∨ (x &&& (7 : Int32)) % (5 : Int32) = 1 ∨ (x &&& (7 : Int32)) % (5 : Int32) = 2 ∨ (x &&& (7 : Int32)) % (5 : Int32) = 3 ∨ (x &&& (7 : Int32)) % (5 : Int32) = 4 := by
  have h : (x &&& 7).toBitVec.toNat < 8 := by
    simp only [Int32.toBitVec_and, BitVec.toNat_and]
    exact Nat.lt_succ_of_le Nat.and_le_right
  have e : (x &&& 7) = Int32.ofNat (x &&& 7).toBitVec.toNat := by
    apply Int32.toBitVec_inj.mp
    show _ = BitVec.ofNat 32 _
    rw [BitVec.ofNat_toNat]; simp
  rw [e]
  have t : ∀ k : Fin 8, Int32.ofNat k.val % (5 : Int32) = 0 ∨ Int32.ofNat k.val % (5 : Int32) = 1 ∨ Int32.ofNat k.val % (5 : Int32) = 2 ∨ Int32.ofNat k.val % (5 : Int32) = 3 ∨ Int32.ofNat k.val % (5 : Int32) = 4 := by decide +kernel
  exact t ⟨_, h⟩
theorem c16_nil : ∀ c ∈ ([] : List Int32), ¬ c < 0 ∧ ¬ (65535 : Int32) < c := fun _ q => nomatch q
theorem c16_cons {c : Int32} {L : List Int32} (q : ¬ c < 0 ∧ ¬ (65535 : Int32) < c) (r : ∀ c ∈ L, ¬ c < 0 ∧ ¬ (65535 : Int32) < c) : ∀ x ∈ c :: L, ¬ x < 0 ∧ ¬ (65535 : Int32) < x := fun x z => (List.mem_cons.mp z).elim (fun u => u ▸ q) (r x)
theorem pn_law : plainFor x = true := by first | exact plainFor_of_name (by first | (simp [plainName, overriddenIn]; done) | decide +kernel) | exact Jvm.Free.JP.mathPlain rfl (by decide +kernel)
theorem ef_law (m : MethodId) (x0 : Int32) (x1 : Int32) (x2 : Int32) (x3 : Int32) (x4 : Int32) : entryFrame m #[(.int x0), (.int x1), (.int x2), (.int x3), (.int x4)] maxLocals = mkF m 0 #[vI x0, vI x1, vI x2, vI x3, vI x4, .unset, .unset, .unset, .unset, .unset, .unset, .unset] [] := by first | (simp [entryFrame, mkF, argsToLocals, Value.category, maxLocals]; done) | rfl
def Q_law (Z : State) (p0 p1 p2 p3 p4 : Int32) (fm : Value) (h0 : Heap) (n0 : Nat) (v : Option Value) (h : Heap) (L : List Loc) : Prop := v = some (.int 1) ∧ Fr n0 L
set_option maxRecDepth 65536 in
set_option maxHeartbeats 40000000 in
theorem rm_law (l : Launch) (Z : State) (a0 : Array Value) (hw : ∀ d ∈ tables_1, d.before a0 Z = true) (ws : List Jvm.Cond) (p0 p1 p2 p3 p4 : Int32) (fm : Value) (h0 : Heap) (n0 : Nat) (Z0 : n0 ≤ h0.size) (B : Bg Z h0 fm) :
    MetFree l x (head1 (Jvm.Cond.code x code maxLocals ret :: ws) room_1) (fun a U => a = #[(.int p0), (.int p1), (.int p2), (.int p3), (.int p4)] ∧ Z.Warmed39 U.vm ∧ U.heap = h0 ∧ CHv Z EL U.vm h0) (fun _ _ _ _ _ => True) (fun _ U o U' => ∃ v L, o = .returned v ∧ Q_law Z p0 p1 p2 p3 p4 fm h0 n0 v U'.heap L ∧ CHr Z EL U.vm U.heap U'.vm U'.heap ∧ ReturnedEndW U o U' L 24 2176) := by
  refine MetFree.of_bodySF pn_law hisR ?_
  intro p e s m args below meth c s₁ Bd hml0 hP hK
  obtain ⟨rfl, hZ, hh, H0⟩ := hP
  have hx := Bd.exec
  have hby := Bd.bytes
  have hml : c.maxLocals = 12 := hml0
  have hown : s.vm.findClass "com/example/permitd/permitd/http/HeadersIsTokenPinLaw" = some m.cls := findClass_of_methodNamed Bd.named
  have hnm := (name_of_methodNamed Bd.named Bd.method).1
  have X0 : Stand p l e room_1 (s.setVm s.vm) m #[(.int p0), (.int p1), (.int p2), (.int p3), (.int p4)] below meth c s₁ [] 0 0 := Stand.of_body Bd
  have e0 : s₁.heap = h0 := by rw [← hh, Bd.state]; rfl
  have N0 := Fr.nil n0
  have hS0 : s.Since s.vm 0 := (State.WarmedH.refl s).since _
  have R0 : CHr Z EL s.vm s.heap s.vm h0 := by rw [hh]; exact CHr.refl H0
  have hZ : Z.Warmed39 (s.setVm s.vm).vm := hZ
  have hown : (s.setVm s.vm).vm.findClass "com/example/permitd/permitd/http/HeadersIsTokenPinLaw" = some m.cls := hown
  have hEL := ew hw
  have wS : ∀ d ∈ Bundle.stringAtoms, d.before a0 Z = true := fun d hd => hw d (ws_lit d hd)
  show Rch p e below s₁ (entryFrame m #[(.int p0), (.int p1), (.int p2), (.int p3), (.int p4)] maxLocals) (fun U o => ∃ v L, o = .returned v ∧ Q_law Z p0 p1 p2 p3 p4 fm h0 n0 v U.heap L ∧ CHr Z EL s.vm s.heap U.vm U.heap ∧ ReturnedEndW s o U L 24 2176)
  refine Rch.cast (ef_law m p0 p1 p2 p3 p4) ?_
  show Rch p e below s₁ (mkF m 0 #[vI p0, vI p1, vI p2, vI p3, vI p4, .unset, .unset, .unset, .unset, .unset, .unset, .unset] []) _
  refine Rch.st (fun _ k => XS.iloadN X0.here hx rfl (hb hby at_0) rfl k) ?_
  refine Rch.st (fun _ k => XS.bipush X0.here hx rfl (hb hby at_1)  k) ?_
  show Rch p e below s₁ (mkF m 3 #[vI p0, vI p1, vI p2, vI p3, vI p4, .unset, .unset, .unset, .unset, .unset, .unset, .unset] [(.int (7 : Int32)), (.int p0)]) _
  refine Rch.st (fun _ k => XS.iand X0.here hx rfl (hb hby at_3) rfl k) ?_
  refine Rch.st (fun _ k => XS.iconst X0.here hx rfl (hb hby at_4)  k) ?_
  show Rch p e below s₁ (mkF m 5 #[vI p0, vI p1, vI p2, vI p3, vI p4, .unset, .unset, .unset, .unset, .unset, .unset, .unset] [(.int (5 : Int32)), (.int (p0 &&& (7 : Int32)))]) _
  refine Rch.st (fun _ k => iremM X0 hx rfl (hb hby at_5) rfl (by decide) k) ?_
  show Rch p e below s₁ (mkF m 6 #[vI p0, vI p1, vI p2, vI p3, vI p4, .unset, .unset, .unset, .unset, .unset, .unset, .unset] [(.int ((p0 &&& (7 : Int32)) % (5 : Int32)))]) _
  generalize hln : ((p0 &&& (7 : Int32)) % (5 : Int32)) = ln
  have rln : ln = 0 ∨ ln = 1 ∨ ln = 2 ∨ ln = 3 ∨ ln = 4 := hln ▸ rem5 _
  show Rch p e below s₁ (mkF m 6 #[vI p0, vI p1, vI p2, vI p3, vI p4, .unset, .unset, .unset, .unset, .unset, .unset, .unset] [(.int ln)]) _
  refine Rch.st (fun _ k => XS.istore X0.here hx rfl (hb hby at_6) rfl (l' := #[vI p0, vI p1, vI p2, vI p3, vI p4, vI ln, .unset, .unset, .unset, .unset, .unset, .unset]) rfl k) ?_
  refine Rch.st (fun _ k => XS.iloadN X0.here hx rfl (hb hby at_8) rfl k) ?_
  show Rch p e below s₁ (mkF m 9 #[vI p0, vI p1, vI p2, vI p3, vI p4, vI ln, .unset, .unset, .unset, .unset, .unset, .unset] [(.int p1)]) _
  refine Rch.st (fun _ k => XT.i2c X0.here hx rfl (hb hby at_9) rfl k) ?_
  show Rch p e below s₁ (mkF m 10 #[vI p0, vI p1, vI p2, vI p3, vI p4, vI ln, .unset, .unset, .unset, .unset, .unset, .unset] [(.int (p1.toUInt32.toUInt16.toUInt32.toInt32))]) _
  generalize hc0 : (p1.toUInt32.toUInt16.toUInt32.toInt32) = c0
  have k0 : C16 c0 := hc0 ▸ c16_i2c _
  show Rch p e below s₁ (mkF m 10 #[vI p0, vI p1, vI p2, vI p3, vI p4, vI ln, .unset, .unset, .unset, .unset, .unset, .unset] [(.int c0)]) _
  refine Rch.st (fun _ k => XS.istore X0.here hx rfl (hb hby at_10) rfl (l' := #[vI p0, vI p1, vI p2, vI p3, vI p4, vI ln, vI c0, .unset, .unset, .unset, .unset, .unset]) rfl k) ?_
  refine Rch.st (fun _ k => XS.iloadN X0.here hx rfl (hb hby at_12) rfl k) ?_
  show Rch p e below s₁ (mkF m 13 #[vI p0, vI p1, vI p2, vI p3, vI p4, vI ln, vI c0, .unset, .unset, .unset, .unset, .unset] [(.int p2)]) _
  refine Rch.st (fun _ k => XT.i2c X0.here hx rfl (hb hby at_13) rfl k) ?_
  show Rch p e below s₁ (mkF m 14 #[vI p0, vI p1, vI p2, vI p3, vI p4, vI ln, vI c0, .unset, .unset, .unset, .unset, .unset] [(.int (p2.toUInt32.toUInt16.toUInt32.toInt32))]) _
  generalize hc1 : (p2.toUInt32.toUInt16.toUInt32.toInt32) = c1
  have k1 : C16 c1 := hc1 ▸ c16_i2c _
  show Rch p e below s₁ (mkF m 14 #[vI p0, vI p1, vI p2, vI p3, vI p4, vI ln, vI c0, .unset, .unset, .unset, .unset, .unset] [(.int c1)]) _
  refine Rch.st (fun _ k => XS.istore X0.here hx rfl (hb hby at_14) rfl (l' := #[vI p0, vI p1, vI p2, vI p3, vI p4, vI ln, vI c0, vI c1, .unset, .unset, .unset, .unset]) rfl k) ?_
  refine Rch.st (fun _ k => XS.iloadN X0.here hx rfl (hb hby at_16) rfl k) ?_
  show Rch p e below s₁ (mkF m 17 #[vI p0, vI p1, vI p2, vI p3, vI p4, vI ln, vI c0, vI c1, .unset, .unset, .unset, .unset] [(.int p3)]) _
  refine Rch.st (fun _ k => XT.i2c X0.here hx rfl (hb hby at_17) rfl k) ?_
  show Rch p e below s₁ (mkF m 18 #[vI p0, vI p1, vI p2, vI p3, vI p4, vI ln, vI c0, vI c1, .unset, .unset, .unset, .unset] [(.int (p3.toUInt32.toUInt16.toUInt32.toInt32))]) _
  generalize hc2 : (p3.toUInt32.toUInt16.toUInt32.toInt32) = c2
  have k2 : C16 c2 := hc2 ▸ c16_i2c _
  show Rch p e below s₁ (mkF m 18 #[vI p0, vI p1, vI p2, vI p3, vI p4, vI ln, vI c0, vI c1, .unset, .unset, .unset, .unset] [(.int c2)]) _
  refine Rch.st (fun _ k => XS.istore X0.here hx rfl (hb hby at_18) rfl (l' := #[vI p0, vI p1, vI p2, vI p3, vI p4, vI ln, vI c0, vI c1, vI c2, .unset, .unset, .unset]) rfl k) ?_
  refine Rch.st (fun _ k => XS.iload X0.here hx rfl (hb hby at_20) rfl k) ?_
  show Rch p e below s₁ (mkF m 22 #[vI p0, vI p1, vI p2, vI p3, vI p4, vI ln, vI c0, vI c1, vI c2, .unset, .unset, .unset] [(.int p4)]) _
  refine Rch.st (fun _ k => XT.i2c X0.here hx rfl (hb hby at_22) rfl k) ?_
  show Rch p e below s₁ (mkF m 23 #[vI p0, vI p1, vI p2, vI p3, vI p4, vI ln, vI c0, vI c1, vI c2, .unset, .unset, .unset] [(.int (p4.toUInt32.toUInt16.toUInt32.toInt32))]) _
  generalize hc3 : (p4.toUInt32.toUInt16.toUInt32.toInt32) = c3
  have k3 : C16 c3 := hc3 ▸ c16_i2c _
  show Rch p e below s₁ (mkF m 23 #[vI p0, vI p1, vI p2, vI p3, vI p4, vI ln, vI c0, vI c1, vI c2, .unset, .unset, .unset] [(.int c3)]) _
  refine Rch.st (fun _ k => XS.istore X0.here hx rfl (hb hby at_23) rfl (l' := #[vI p0, vI p1, vI p2, vI p3, vI p4, vI ln, vI c0, vI c1, vI c2, vI c3, .unset, .unset]) rfl k) ?_
  refine Rch.st (fun _ k => XS.iload X0.here hx rfl (hb hby at_25) rfl k) ?_
  show Rch p e below s₁ (mkF m 27 #[vI p0, vI p1, vI p2, vI p3, vI p4, vI ln, vI c0, vI c1, vI c2, vI c3, .unset, .unset] [(.int ln)]) _
  by_cases hn0 : ln = (0 : Int32)
  · skip
    refine Rch.st (fun _ k => XS.ifNo X0.here hx rfl (hb hby at_27) rfl ((if0 _ _).trans (teq hn0).2) k) ?_
    show Rch p e below s₁ (mkF m 30 #[vI p0, vI p1, vI p2, vI p3, vI p4, vI ln, vI c0, vI c1, vI c2, vI c3, .unset, .unset] []) _
    subst hn0
    show Rch p e below s₁ (mkF m 30 #[vI p0, vI p1, vI p2, vI p3, vI p4, vI (0 : Int32), vI c0, vI c1, vI c2, vI c3, .unset, .unset] []) _
    refine Rch.st (fun _ k => XS.iconst X0.here hx rfl (hb hby at_30)  k) ?_
    show Rch p e below s₁ (mkF m 31 #[vI p0, vI p1, vI p2, vI p3, vI p4, vI (0 : Int32), vI c0, vI c1, vI c2, vI c3, .unset, .unset] [(.int (0 : Int32))]) _
    obtain ⟨T195, h195, k195, X195, e195, E195, A195, st195⟩ := newP X0 hx hZ (wq hw 0 rfl) e0 (g := (mkF m 31 #[vI p0, vI p1, vI p2, vI p3, vI p4, vI (0 : Int32), vI c0, vI c1, vI c2, vI c3, .unset, .unset] [(.int (0 : Int32))])) rfl (hb hby at_31) rfl (by decide : ¬ ((0 : Int32) < (0 : Int32))) (cap := 0) (by decide : ((0 : Int32)).toNatClampNeg ≤ 0) (by decide) (by decide) (by decide)
    obtain ⟨a195, g195⟩ : ∃ z, z = h0.size := ⟨_, rfl⟩
    rw [← g195] at A195 st195
    have Ex196 : Ext h0 h195 := E195
    have le197 : h0.size ≤ a195 := Nat.le_of_eq g195.symm
    refine Rch.st st195 ?_
    show Rch p e below T195 (mkF m 33 #[vI p0, vI p1, vI p2, vI p3, vI p4, vI (0 : Int32), vI c0, vI c1, vI c2, vI c3, .unset, .unset] [(.ref a195)]) _
    have V195 : Arv Z h195 a195 k195 .char (0 : Int32) [] (.int (0 : Int32)) := (Arv.new A195 (by decide : ¬ ((0 : Int32) < (0 : Int32)))).pad (pad_rep [] (.int (0 : Int32)) 0)
    refine Rch.st (fun _ k => XS.astore X195.here hx rfl (hb hby at_33) rfl rfl (l' := #[vI p0, vI p1, vI p2, vI p3, vI p4, vI (0 : Int32), vI c0, vI c1, vI c2, vI c3, vR a195, .unset]) rfl k) ?_
    refine Rch.st (fun _ k => XS.goto X195.here hx rfl (pc0 := 35) (pc' := 135) rfl (hb hby at_35) (by decide) (by decide) k) ?_
    show Rch p e below T195 (mkF m 135 #[vI p0, vI p1, vI p2, vI p3, vI p4, vI (0 : Int32), vI c0, vI c1, vI c2, vI c3, vR a195, .unset] []) _
    have fin : ∀ (T198 : State) (lc198 : List Loc) (h198 : Heap) (vm198 : Vm) (k0_198 : Nat) (ex : Int32), Stand p l e room_1 (s.setVm vm198) m #[(.int p0), (.int p1), (.int p2), (.int p3), (.int p4)] below meth c T198 lc198 1 0 → T198.heap = h198 → Fr n0 lc198 → Ext h0 h198 → s.Since vm198 k0_198 → k0_198 ≤ h198.size → Z.Warmed39 (s.setVm vm198).vm → (s.setVm vm198).vm.findClass "com/example/permitd/permitd/http/HeadersIsTokenPinLaw" = some m.cls → CHr Z EL s.vm s.heap vm198 h198 → (Arv Z h198 a195 k195 .char (0 : Int32) [] (.int (0 : Int32))) → ((ex = 1 ∧ (¬ ([] : List Int32) = [] ∧ ∀ c ∈ ([] : List Int32), tokB c = true)) ∨ (ex = 0 ∧ ¬ (¬ ([] : List Int32) = [] ∧ ∀ c ∈ ([] : List Int32), tokB c = true))) → Rch p e below T198 (mkF m 197 #[vI p0, vI p1, vI p2, vI p3, vI p4, vI (0 : Int32), vI c0, vI c1, vI c2, vI c3, vR a195, vI ex] []) (fun U o => ∃ v L, o = .returned v ∧ Q_law Z p0 p1 p2 p3 p4 fm h0 n0 v U.heap L ∧ CHr Z EL s.vm s.heap U.vm U.heap ∧ ReturnedEndW s o U L 24 2176) := by
      intro T198 lc198 h198 vm198 k0_198 ex X198 e198 N198 Ex198 hS198 hk198 hZ198 hown198 R198 MV hex
      show Rch p e below T198 (mkF m 197 #[vI p0, vI p1, vI p2, vI p3, vI p4, vI (0 : Int32), vI c0, vI c1, vI c2, vI c3, vR a195, vI ex] []) _
      obtain ⟨T199, h199, X199, e199, E199, A199, D199, -, st199⟩ := newO X198 hx hZ198 hown198 (wq hw 1 rfl) (wq hw 2 rfl) (wq hw 3 rfl) e198 (g := (mkF m 197 #[vI p0, vI p1, vI p2, vI p3, vI p4, vI (0 : Int32), vI c0, vI c1, vI c2, vI c3, vR a195, vI ex] [])) rfl (hb hby at_197) (by decide) (by decide)
      obtain ⟨a199, g199⟩ : ∃ z, z = h198.size := ⟨_, rfl⟩
      rw [← g199] at A199 D199 st199
      have Ex200 : Ext h0 h199 := Ex198.tr E199
      have Ex201 : Ext h198 h199 := E199
      have le202 : h0.size ≤ a199 := Nat.le_trans Ex198.1 (Nat.le_of_eq g199.symm)
      have le203 : h198.size ≤ a199 := Nat.le_of_eq g199.symm
      refine Rch.st st199 ?_
      show Rch p e below T199 (mkF m 200 #[vI p0, vI p1, vI p2, vI p3, vI p4, vI (0 : Int32), vI c0, vI c1, vI c2, vI c3, vR a195, vI ex] [(.ref a199)]) _
      refine Rch.st (fun _ k => XS.dup X199.here hx rfl (hb hby at_200) rfl rfl k) ?_
      refine Rch.st (fun _ k => XS.aload X199.here hx rfl (hb hby at_201) rfl rfl k) ?_
      show Rch p e below T199 (mkF m 203 #[vI p0, vI p1, vI p2, vI p3, vI p4, vI (0 : Int32), vI c0, vI c1, vI c2, vI c3, vR a195, vI ex] [(.ref a195), (.ref a199), (.ref a199)]) _
      have R204 := R198.trans (CHr.ext Ex201 R198.1)
      have hk205 := Nat.le_trans hk198 Ex201.1
      obtain ⟨_, _, ⟨T206, L206, k206, n206⟩, -, X206_, hS206_, hg206_, ⟨Lc206, hQ206, l206, y206, z206, CR206⟩, st206⟩ := X199.specialBackS hx (y := (⟨"java/lang/String", "<init>", "([C)V"⟩ : MethodName)) rfl hown198 (mvT hZ198 (wq hw 4 rfl)) (mvT hZ198 (wq hw 5 rfl)) (mvT hZ198 (wq hw 6 rfl)) (by decide) (backOfSH (W := 1) (rm_new1e l Z a0 hw [] a199 a195 k195 h199 n0 (Nat.le_trans Z0 Ex200.1) (Nat.le_trans Z0 le202) A199 ((D199 (Or.inr (wq hw 16 rfl)) (ty := (.array .byte)) (by decide)).ext Ext.rf) ((D199 (Or.inr (wq hw 17 rfl)) (ty := .byte) (by decide)).ext Ext.rf) (MV.ext Ex201)) hZ198 (wq hw 6 rfl) (wq hw 3 rfl) (by decide) (by decide) hEL R204.1) (g := (mkF m 203 #[vI p0, vI p1, vI p2, vI p3, vI p4, vI (0 : Int32), vI c0, vI c1, vI c2, vI c3, vR a195, vI ex] [(.ref a195), (.ref a199), (.ref a199)])) rfl (by rw [hml]; rfl) (Steps.refl _) (a := a199) (argsL := [(.ref a195)]) (rest := [(.ref a199)]) (lenOf pd_18 rfl) rfl (by show 2 * 0 + _ ≤ _; exact Nat.le_of_eq rfl) (hb hby at_203) (fun _ _ => ⟨rfl, e199, (by decide : 2 + 4 ≤ _), (by decide : 4 + 8 ≤ _)⟩)
      dsimp only [Pt.U, Pt.locs, Pt.cells, Pt.slots] at X206_ hS206_ hg206_ l206 y206 z206 st206 hQ206 CR206
      subst l206 y206 z206
      obtain ⟨X206, hS206, hZ206, hown206⟩ := rebS hS198 (by rw [e199]; exact hk205) X206_ hS206_ hg206_ hZ198 hown198
      obtain ⟨rfl, Nq206, K206, Q206⟩ := hQ206
      have N206 := Fr.app N198 Nq206
      have R206 := R204.trans CR206
      have Ex207 : Ext h0 T206.heap := extKeep1 Ex200 K206 le202
      have Ex208 : Ext h198 T206.heap := extKeep1 Ex201 K206 le203
      refine Rch.go st206 ?_
      show Rch p e below T206 (mkF m 206 #[vI p0, vI p1, vI p2, vI p3, vI p4, vI (0 : Int32), vI c0, vI c1, vI c2, vI c3, vR a195, vI ex] [(.ref a199)]) _
      obtain ⟨_, _, ⟨T209, L209, k209, n209⟩, -, X209_, hS209_, hg209_, ⟨Lc209, hQ209, l209, y209, z209, CR209⟩, st209⟩ := callSS X206 hx (y := (⟨"com/example/permitd/permitd/http/Headers", "isToken", "(Ljava/lang/String;)Z"⟩ : MethodName)) hown206 (mvT hZ206 (wq hw 22 rfl)) (mvT hZ206 (wq hw 23 rfl)) (mvT hZ206 (wq hw 24 rfl)) (mvT hZ206 (wq hw 25 rfl)) (by decide) (backOfSH (W := 0) (rm_isTok l Z a0 hw [] a199 ([] : List Int32) fm T206.heap n0 (Nat.le_trans Z0 Ex207.1) Q206 (B.ext Ex207) (Nat.le_of_ble_eq_true rfl)) hZ206 (wq hw 25 rfl) (wq hw 24 rfl) (by decide) (by decide) hEL R206.1) (g := (mkF m 206 #[vI p0, vI p1, vI p2, vI p3, vI p4, vI (0 : Int32), vI c0, vI c1, vI c2, vI c3, vR a195, vI ex] [(.ref a199)])) rfl (by rw [hml]; rfl) (argsL := [(.ref a199)]) (rest := []) (lenOf pd_19 rfl) rfl (by show 2 * 0 + _ ≤ _; exact Nat.le_of_eq rfl) (hb hby at_206) (fun _ _ => ⟨rfl, rfl, (by decide : 6 + 8 ≤ _), (by decide : 12 + 256 ≤ _)⟩)
      dsimp only [Pt.U, Pt.locs, Pt.cells, Pt.slots] at X209_ hS209_ hg209_ l209 y209 z209 st209 hQ209 CR209
      subst l209 y209 z209
      obtain ⟨X209, hS209, hZ209, hown209⟩ := rebS hS206 (Nat.le_refl _) X209_ hS209_ hg209_ hZ206 hown206
      obtain ⟨r209, rfl, Nq209, E209, u209, v209⟩ := hQ209
      have N209 := Fr.app N206 Nq209
      have R209 := R206.trans CR209
      have Ex210 : Ext h0 T209.heap := Ex207.tr E209
      have Ex211 : Ext h198 T209.heap := Ex208.tr E209
      have Ex212 : Ext T206.heap T209.heap := E209
      refine Rch.go st209 ?_
      show Rch p e below T209 (mkF m 209 #[vI p0, vI p1, vI p2, vI p3, vI p4, vI (0 : Int32), vI c0, vI c1, vI c2, vI c3, vR a195, vI ex] [(.int r209)]) _
      obtain ⟨rfl, hq⟩ | ⟨rfl, hq⟩ := hex
      · skip
        obtain rfl : r209 = 1 := u209 hq
        show Rch p e below T209 (mkF m 209 #[vI p0, vI p1, vI p2, vI p3, vI p4, vI (0 : Int32), vI c0, vI c1, vI c2, vI c3, vR a195, vI (1 : Int32)] [(.int (1 : Int32))]) _
        refine Rch.st (fun _ k => XS.iload X209.here hx rfl (hb hby at_209) rfl k) ?_
        refine Rch.st (fun _ k => XS.icmpNo X209.here hx rfl (hb hby at_211) rfl (by decide : if_icmp.holds .ne (1 : Int32) (1 : Int32) = false) k) ?_
        show Rch p e below T209 (mkF m 214 #[vI p0, vI p1, vI p2, vI p3, vI p4, vI (0 : Int32), vI c0, vI c1, vI c2, vI c3, vR a195, vI (1 : Int32)] []) _
        refine Rch.st (fun _ k => XS.iconst X209.here hx rfl (hb hby at_214)  k) ?_
        refine Rch.st (fun _ k => XS.goto X209.here hx rfl (pc0 := 215) (pc' := 219) rfl (hb hby at_215) (by decide) (by decide) k) ?_
        show Rch p e below T209 (mkF m 219 #[vI p0, vI p1, vI p2, vI p3, vI p4, vI (0 : Int32), vI c0, vI c1, vI c2, vI c3, vR a195, vI (1 : Int32)] [(.int (1 : Int32))]) _
        exact Rch.finW (Q := Q_law Z p0 p1 p2 p3 p4 fm h0 n0) X209 hZ209 hEL hS209 (Nat.le_refl _) rfl R209 (v := some (.int (1 : Int32))) (fun h => by rw [Bd.returns] at h; cases h) (BodyLoose.notSynchronized Bd) (fun fs hr => retN X209 hx (t := .boolean) Bd.returns (by simp) (hb hby at_219) hr) ⟨rfl, N209⟩ (by decide) (by decide)
      · skip
        obtain rfl : r209 = 0 := v209 hq
        show Rch p e below T209 (mkF m 209 #[vI p0, vI p1, vI p2, vI p3, vI p4, vI (0 : Int32), vI c0, vI c1, vI c2, vI c3, vR a195, vI (0 : Int32)] [(.int (0 : Int32))]) _
        refine Rch.st (fun _ k => XS.iload X209.here hx rfl (hb hby at_209) rfl k) ?_
        refine Rch.st (fun _ k => XS.icmpNo X209.here hx rfl (hb hby at_211) rfl (by decide : if_icmp.holds .ne (0 : Int32) (0 : Int32) = false) k) ?_
        show Rch p e below T209 (mkF m 214 #[vI p0, vI p1, vI p2, vI p3, vI p4, vI (0 : Int32), vI c0, vI c1, vI c2, vI c3, vR a195, vI (0 : Int32)] []) _
        refine Rch.st (fun _ k => XS.iconst X209.here hx rfl (hb hby at_214)  k) ?_
        refine Rch.st (fun _ k => XS.goto X209.here hx rfl (pc0 := 215) (pc' := 219) rfl (hb hby at_215) (by decide) (by decide) k) ?_
        show Rch p e below T209 (mkF m 219 #[vI p0, vI p1, vI p2, vI p3, vI p4, vI (0 : Int32), vI c0, vI c1, vI c2, vI c3, vR a195, vI (0 : Int32)] [(.int (1 : Int32))]) _
        exact Rch.finW (Q := Q_law Z p0 p1 p2 p3 p4 fm h0 n0) X209 hZ209 hEL hS209 (Nat.le_refl _) rfl R209 (v := some (.int (1 : Int32))) (fun h => by rw [Bd.returns] at h; cases h) (BodyLoose.notSynchronized Bd) (fun fs hr => retN X209 hx (t := .boolean) Bd.returns (by simp) (hb hby at_219) hr) ⟨rfl, N209⟩ (by decide) (by decide)
    refine Rch.st (fun _ k => XS.iload X195.here hx rfl (hb hby at_135) rfl k) ?_
    refine Rch.st (fun _ k => XS.ifYes X195.here hx rfl (pc0 := 137) (pc' := 194) rfl (hb hby at_137) rfl (by decide : ifCond.holds .le (0 : Int32) = true) (by decide) (by decide) k) ?_
    show Rch p e below T195 (mkF m 194 #[vI p0, vI p1, vI p2, vI p3, vI p4, vI (0 : Int32), vI c0, vI c1, vI c2, vI c3, vR a195, .unset] []) _
    refine Rch.st (fun _ k => XS.iconst X195.here hx rfl (hb hby at_194)  k) ?_
    refine Rch.st (fun _ k => XS.istore X195.here hx rfl (hb hby at_195) rfl (l' := #[vI p0, vI p1, vI p2, vI p3, vI p4, vI (0 : Int32), vI c0, vI c1, vI c2, vI c3, vR a195, vI (0 : Int32)]) rfl k) ?_
    show Rch p e below T195 (mkF m 197 #[vI p0, vI p1, vI p2, vI p3, vI p4, vI (0 : Int32), vI c0, vI c1, vI c2, vI c3, vR a195, vI (0 : Int32)] []) _
    have R213 := R0.trans (CHr.ext Ex196 R0.1)
    have hk214 := Nat.le_trans (Nat.zero_le _) Ex196.1
    exact fin _ _ _ _ _ _ X195 e195 N0 Ex196 hS0 hk214 hZ hown R213 V195 (Or.inr ⟨rfl, fun q => q.1 rfl⟩)
  · skip
    refine Rch.st (fun _ k => XS.ifYes X0.here hx rfl (pc0 := 27) (pc' := 38) rfl (hb hby at_27) rfl ((if0 _ _).trans (feq hn0).2) (by decide) (by decide) k) ?_
    refine Rch.st (fun _ k => XS.iload X0.here hx rfl (hb hby at_38) rfl k) ?_
    show Rch p e below s₁ (mkF m 40 #[vI p0, vI p1, vI p2, vI p3, vI p4, vI ln, vI c0, vI c1, vI c2, vI c3, .unset, .unset] [(.int ln)]) _
    refine Rch.st (fun _ k => XS.iconst X0.here hx rfl (hb hby at_40)  k) ?_
    show Rch p e below s₁ (mkF m 41 #[vI p0, vI p1, vI p2, vI p3, vI p4, vI ln, vI c0, vI c1, vI c2, vI c3, .unset, .unset] [(.int (1 : Int32)), (.int ln)]) _
    by_cases hn1 : ln = (1 : Int32)
    · skip
      refine Rch.st (fun _ k => XS.icmpNo X0.here hx rfl (hb hby at_41) rfl (teq hn1).2 k) ?_
      show Rch p e below s₁ (mkF m 44 #[vI p0, vI p1, vI p2, vI p3, vI p4, vI ln, vI c0, vI c1, vI c2, vI c3, .unset, .unset] []) _
      subst hn1
      show Rch p e below s₁ (mkF m 44 #[vI p0, vI p1, vI p2, vI p3, vI p4, vI (1 : Int32), vI c0, vI c1, vI c2, vI c3, .unset, .unset] []) _
      refine Rch.st (fun _ k => XS.iconst X0.here hx rfl (hb hby at_44)  k) ?_
      show Rch p e below s₁ (mkF m 45 #[vI p0, vI p1, vI p2, vI p3, vI p4, vI (1 : Int32), vI c0, vI c1, vI c2, vI c3, .unset, .unset] [(.int (1 : Int32))]) _
      obtain ⟨T215, h215, k215, X215, e215, E215, A215, st215⟩ := newP X0 hx hZ (wq hw 0 rfl) e0 (g := (mkF m 45 #[vI p0, vI p1, vI p2, vI p3, vI p4, vI (1 : Int32), vI c0, vI c1, vI c2, vI c3, .unset, .unset] [(.int (1 : Int32))])) rfl (hb hby at_45) rfl (by decide : ¬ ((1 : Int32) < (0 : Int32))) (cap := 1) (by decide : ((1 : Int32)).toNatClampNeg ≤ 1) (by decide) (by decide) (by decide)
      obtain ⟨a215, g215⟩ : ∃ z, z = h0.size := ⟨_, rfl⟩
      rw [← g215] at A215 st215
      have Ex216 : Ext h0 h215 := E215
      have le217 : h0.size ≤ a215 := Nat.le_of_eq g215.symm
      refine Rch.st st215 ?_
      show Rch p e below T215 (mkF m 47 #[vI p0, vI p1, vI p2, vI p3, vI p4, vI (1 : Int32), vI c0, vI c1, vI c2, vI c3, .unset, .unset] [(.ref a215)]) _
      have V215 : Arv Z h215 a215 k215 .char (1 : Int32) [(.int (0 : Int32))] (.int (0 : Int32)) := (Arv.new A215 (by decide : ¬ ((1 : Int32) < (0 : Int32)))).pad (pad_rep [] (.int (0 : Int32)) 1)
      refine Rch.st (fun _ k => XS.dup X215.here hx rfl (hb hby at_47) rfl rfl k) ?_
      refine Rch.st (fun _ k => XS.iconst X215.here hx rfl (hb hby at_48)  k) ?_
      show Rch p e below T215 (mkF m 49 #[vI p0, vI p1, vI p2, vI p3, vI p4, vI (1 : Int32), vI c0, vI c1, vI c2, vI c3, .unset, .unset] [(.int (0 : Int32)), (.ref a215), (.ref a215)]) _
      refine Rch.st (fun _ k => XS.iload X215.here hx rfl (hb hby at_49) rfl k) ?_
      show Rch p e below T215 (mkF m 51 #[vI p0, vI p1, vI p2, vI p3, vI p4, vI (1 : Int32), vI c0, vI c1, vI c2, vI c3, .unset, .unset] [(.int c0), (.int (0 : Int32)), (.ref a215), (.ref a215)]) _
      obtain ⟨T218, h218, L218, sl218, X218, e218, W218, V218, N218, st218⟩ := stCv X215 hx hZ e215 V215 N0 (Nat.le_trans Z0 le217) (j := (0 : Int32)) ⟨by decide, by decide⟩ 0 rfl (Nat.le_of_ble_eq_true rfl) (g := (mkF m 51 #[vI p0, vI p1, vI p2, vI p3, vI p4, vI (1 : Int32), vI c0, vI c1, vI c2, vI c3, .unset, .unset] [(.int c0), (.int (0 : Int32)), (.ref a215), (.ref a215)])) rfl rfl (hb hby at_51)
      have V218_ := V218
      rw [k0.2] at V218_
      have V218' : Arv Z h218 a215 k215 .char (1 : Int32) [(.int c0)] (.int (0 : Int32)) := V218_
      have Ex219 : Ext h0 h218 := extWr Ex216 W218 le217
      refine Rch.st st218 ?_
      show Rch p e below T218 (mkF m 52 #[vI p0, vI p1, vI p2, vI p3, vI p4, vI (1 : Int32), vI c0, vI c1, vI c2, vI c3, .unset, .unset] [(.ref a215)]) _
      refine Rch.st (fun _ k => XS.astore X218.here hx rfl (hb hby at_52) rfl rfl (l' := #[vI p0, vI p1, vI p2, vI p3, vI p4, vI (1 : Int32), vI c0, vI c1, vI c2, vI c3, vR a215, .unset]) rfl k) ?_
      refine Rch.st (fun _ k => XS.goto X218.here hx rfl (pc0 := 54) (pc' := 135) rfl (hb hby at_54) (by decide) (by decide) k) ?_
      show Rch p e below T218 (mkF m 135 #[vI p0, vI p1, vI p2, vI p3, vI p4, vI (1 : Int32), vI c0, vI c1, vI c2, vI c3, vR a215, .unset] []) _
      have fin : ∀ (T220 : State) (lc220 : List Loc) (h220 : Heap) (vm220 : Vm) (k0_220 : Nat) (ex : Int32), Stand p l e room_1 (s.setVm vm220) m #[(.int p0), (.int p1), (.int p2), (.int p3), (.int p4)] below meth c T220 lc220 1 1 → T220.heap = h220 → Fr n0 lc220 → Ext h0 h220 → s.Since vm220 k0_220 → k0_220 ≤ h220.size → Z.Warmed39 (s.setVm vm220).vm → (s.setVm vm220).vm.findClass "com/example/permitd/permitd/http/HeadersIsTokenPinLaw" = some m.cls → CHr Z EL s.vm s.heap vm220 h220 → (Arv Z h220 a215 k215 .char (1 : Int32) [(.int c0)] (.int (0 : Int32))) → ((ex = 1 ∧ (¬ ([c0] : List Int32) = [] ∧ ∀ c ∈ ([c0] : List Int32), tokB c = true)) ∨ (ex = 0 ∧ ¬ (¬ ([c0] : List Int32) = [] ∧ ∀ c ∈ ([c0] : List Int32), tokB c = true))) → Rch p e below T220 (mkF m 197 #[vI p0, vI p1, vI p2, vI p3, vI p4, vI (1 : Int32), vI c0, vI c1, vI c2, vI c3, vR a215, vI ex] []) (fun U o => ∃ v L, o = .returned v ∧ Q_law Z p0 p1 p2 p3 p4 fm h0 n0 v U.heap L ∧ CHr Z EL s.vm s.heap U.vm U.heap ∧ ReturnedEndW s o U L 24 2176) := by
        intro T220 lc220 h220 vm220 k0_220 ex X220 e220 N220 Ex220 hS220 hk220 hZ220 hown220 R220 MV hex
        show Rch p e below T220 (mkF m 197 #[vI p0, vI p1, vI p2, vI p3, vI p4, vI (1 : Int32), vI c0, vI c1, vI c2, vI c3, vR a215, vI ex] []) _
        obtain ⟨T221, h221, X221, e221, E221, A221, D221, -, st221⟩ := newO X220 hx hZ220 hown220 (wq hw 1 rfl) (wq hw 2 rfl) (wq hw 3 rfl) e220 (g := (mkF m 197 #[vI p0, vI p1, vI p2, vI p3, vI p4, vI (1 : Int32), vI c0, vI c1, vI c2, vI c3, vR a215, vI ex] [])) rfl (hb hby at_197) (by decide) (by decide)
        obtain ⟨a221, g221⟩ : ∃ z, z = h220.size := ⟨_, rfl⟩
        rw [← g221] at A221 D221 st221
        have Ex222 : Ext h0 h221 := Ex220.tr E221
        have Ex223 : Ext h220 h221 := E221
        have le224 : h0.size ≤ a221 := Nat.le_trans Ex220.1 (Nat.le_of_eq g221.symm)
        have le225 : h220.size ≤ a221 := Nat.le_of_eq g221.symm
        refine Rch.st st221 ?_
        show Rch p e below T221 (mkF m 200 #[vI p0, vI p1, vI p2, vI p3, vI p4, vI (1 : Int32), vI c0, vI c1, vI c2, vI c3, vR a215, vI ex] [(.ref a221)]) _
        refine Rch.st (fun _ k => XS.dup X221.here hx rfl (hb hby at_200) rfl rfl k) ?_
        refine Rch.st (fun _ k => XS.aload X221.here hx rfl (hb hby at_201) rfl rfl k) ?_
        show Rch p e below T221 (mkF m 203 #[vI p0, vI p1, vI p2, vI p3, vI p4, vI (1 : Int32), vI c0, vI c1, vI c2, vI c3, vR a215, vI ex] [(.ref a215), (.ref a221), (.ref a221)]) _
        obtain ⟨_, _, ⟨T226, L226, k226, n226⟩, -, X226, ⟨Lc226, hQ226, l226, y226, z226⟩, st226⟩ := X221.specialBack hx (y := (⟨"java/lang/String", "<init>", "([C)V"⟩ : MethodName)) rfl hown220 (mvT hZ220 (wq hw 4 rfl)) (mvT hZ220 (wq hw 5 rfl)) (mvT hZ220 (wq hw 6 rfl)) (by decide) (newS (W := 1) hZ220 hw (cs := [c0]) (Nat.le_trans Z0 le224) (Nat.le_trans Z0 Ex222.1) A221 ((D221 (Or.inr (wq hw 16 rfl)) (ty := (.array .byte)) (by decide)).ext Ext.rf) ((D221 (Or.inr (wq hw 17 rfl)) (ty := .byte) (by decide)).ext Ext.rf) (MV.ext Ex223) (B.ext Ex222) (c16_cons k0.1 c16_nil) (Nat.le_of_ble_eq_true rfl) (Nat.le_of_ble_eq_true rfl) (by decide) (by decide)) (g := (mkF m 203 #[vI p0, vI p1, vI p2, vI p3, vI p4, vI (1 : Int32), vI c0, vI c1, vI c2, vI c3, vR a215, vI ex] [(.ref a215), (.ref a221), (.ref a221)])) rfl (by rw [hml]; rfl) (Steps.refl _) (a := a221) (argsL := [(.ref a215)]) (rest := [(.ref a221)]) (lenOf pd_18 rfl) rfl (by show 2 * 0 + _ ≤ _; exact Nat.le_of_eq rfl) (hb hby at_203) (fun _ _ => ⟨rfl, e221, (by decide : 2 + 2 ≤ _), (by decide : 5 + 12 ≤ _)⟩)
        dsimp only [Pt.U, Pt.locs, Pt.cells, Pt.slots] at X226 l226 y226 z226 st226 hQ226
        subst l226 y226 z226
        obtain ⟨rfl, Nq226, K226, Q226⟩ := hQ226
        have N226 := Fr.app N220 Nq226
        have Ex227 : Ext h0 T226.heap := extKeep1 Ex222 K226 le224
        have Ex228 : Ext h220 T226.heap := extKeep1 Ex223 K226 le225
        refine Rch.go st226 ?_
        show Rch p e below T226 (mkF m 206 #[vI p0, vI p1, vI p2, vI p3, vI p4, vI (1 : Int32), vI c0, vI c1, vI c2, vI c3, vR a215, vI ex] [(.ref a221)]) _
        have R229 := R220.trans (CHr.ext Ex228 R220.1)
        have hk230 := Nat.le_trans hk220 Ex228.1
        obtain ⟨_, _, ⟨T231, L231, k231, n231⟩, -, X231_, hS231_, hg231_, ⟨Lc231, hQ231, l231, y231, z231, CR231⟩, st231⟩ := callSS X226 hx (y := (⟨"com/example/permitd/permitd/http/Headers", "isToken", "(Ljava/lang/String;)Z"⟩ : MethodName)) hown220 (mvT hZ220 (wq hw 22 rfl)) (mvT hZ220 (wq hw 23 rfl)) (mvT hZ220 (wq hw 24 rfl)) (mvT hZ220 (wq hw 25 rfl)) (by decide) (backOfSH (W := 0) (rm_isTok l Z a0 hw [] a221 ([c0] : List Int32) fm T226.heap n0 (Nat.le_trans Z0 Ex227.1) Q226 (B.ext Ex227) (Nat.le_of_ble_eq_true rfl)) hZ220 (wq hw 25 rfl) (wq hw 24 rfl) (by decide) (by decide) hEL R229.1) (g := (mkF m 206 #[vI p0, vI p1, vI p2, vI p3, vI p4, vI (1 : Int32), vI c0, vI c1, vI c2, vI c3, vR a215, vI ex] [(.ref a221)])) rfl (by rw [hml]; rfl) (argsL := [(.ref a221)]) (rest := []) (lenOf pd_19 rfl) rfl (by show 2 * 0 + _ ≤ _; exact Nat.le_of_eq rfl) (hb hby at_206) (fun _ _ => ⟨rfl, rfl, (by decide : 4 + 8 ≤ _), (by decide : 17 + 256 ≤ _)⟩)
        dsimp only [Pt.U, Pt.locs, Pt.cells, Pt.slots] at X231_ hS231_ hg231_ l231 y231 z231 st231 hQ231 CR231
        subst l231 y231 z231
        obtain ⟨X231, hS231, hZ231, hown231⟩ := rebS hS220 hk230 X231_ hS231_ hg231_ hZ220 hown220
        obtain ⟨r231, rfl, Nq231, E231, u231, v231⟩ := hQ231
        have N231 := Fr.app N226 Nq231
        have R231 := R229.trans CR231
        have Ex232 : Ext h0 T231.heap := Ex227.tr E231
        have Ex233 : Ext h220 T231.heap := Ex228.tr E231
        have Ex234 : Ext T226.heap T231.heap := E231
        refine Rch.go st231 ?_
        show Rch p e below T231 (mkF m 209 #[vI p0, vI p1, vI p2, vI p3, vI p4, vI (1 : Int32), vI c0, vI c1, vI c2, vI c3, vR a215, vI ex] [(.int r231)]) _
        obtain ⟨rfl, hq⟩ | ⟨rfl, hq⟩ := hex
        · skip
          obtain rfl : r231 = 1 := u231 hq
          show Rch p e below T231 (mkF m 209 #[vI p0, vI p1, vI p2, vI p3, vI p4, vI (1 : Int32), vI c0, vI c1, vI c2, vI c3, vR a215, vI (1 : Int32)] [(.int (1 : Int32))]) _
          refine Rch.st (fun _ k => XS.iload X231.here hx rfl (hb hby at_209) rfl k) ?_
          refine Rch.st (fun _ k => XS.icmpNo X231.here hx rfl (hb hby at_211) rfl (by decide : if_icmp.holds .ne (1 : Int32) (1 : Int32) = false) k) ?_
          show Rch p e below T231 (mkF m 214 #[vI p0, vI p1, vI p2, vI p3, vI p4, vI (1 : Int32), vI c0, vI c1, vI c2, vI c3, vR a215, vI (1 : Int32)] []) _
          refine Rch.st (fun _ k => XS.iconst X231.here hx rfl (hb hby at_214)  k) ?_
          refine Rch.st (fun _ k => XS.goto X231.here hx rfl (pc0 := 215) (pc' := 219) rfl (hb hby at_215) (by decide) (by decide) k) ?_
          show Rch p e below T231 (mkF m 219 #[vI p0, vI p1, vI p2, vI p3, vI p4, vI (1 : Int32), vI c0, vI c1, vI c2, vI c3, vR a215, vI (1 : Int32)] [(.int (1 : Int32))]) _
          exact Rch.finW (Q := Q_law Z p0 p1 p2 p3 p4 fm h0 n0) X231 hZ231 hEL hS231 (Nat.le_refl _) rfl R231 (v := some (.int (1 : Int32))) (fun h => by rw [Bd.returns] at h; cases h) (BodyLoose.notSynchronized Bd) (fun fs hr => retN X231 hx (t := .boolean) Bd.returns (by simp) (hb hby at_219) hr) ⟨rfl, N231⟩ (by decide) (by decide)
        · skip
          obtain rfl : r231 = 0 := v231 hq
          show Rch p e below T231 (mkF m 209 #[vI p0, vI p1, vI p2, vI p3, vI p4, vI (1 : Int32), vI c0, vI c1, vI c2, vI c3, vR a215, vI (0 : Int32)] [(.int (0 : Int32))]) _
          refine Rch.st (fun _ k => XS.iload X231.here hx rfl (hb hby at_209) rfl k) ?_
          refine Rch.st (fun _ k => XS.icmpNo X231.here hx rfl (hb hby at_211) rfl (by decide : if_icmp.holds .ne (0 : Int32) (0 : Int32) = false) k) ?_
          show Rch p e below T231 (mkF m 214 #[vI p0, vI p1, vI p2, vI p3, vI p4, vI (1 : Int32), vI c0, vI c1, vI c2, vI c3, vR a215, vI (0 : Int32)] []) _
          refine Rch.st (fun _ k => XS.iconst X231.here hx rfl (hb hby at_214)  k) ?_
          refine Rch.st (fun _ k => XS.goto X231.here hx rfl (pc0 := 215) (pc' := 219) rfl (hb hby at_215) (by decide) (by decide) k) ?_
          show Rch p e below T231 (mkF m 219 #[vI p0, vI p1, vI p2, vI p3, vI p4, vI (1 : Int32), vI c0, vI c1, vI c2, vI c3, vR a215, vI (0 : Int32)] [(.int (1 : Int32))]) _
          exact Rch.finW (Q := Q_law Z p0 p1 p2 p3 p4 fm h0 n0) X231 hZ231 hEL hS231 (Nat.le_refl _) rfl R231 (v := some (.int (1 : Int32))) (fun h => by rw [Bd.returns] at h; cases h) (BodyLoose.notSynchronized Bd) (fun fs hr => retN X231 hx (t := .boolean) Bd.returns (by simp) (hb hby at_219) hr) ⟨rfl, N231⟩ (by decide) (by decide)
      refine Rch.st (fun _ k => XS.iload X218.here hx rfl (hb hby at_135) rfl k) ?_
      refine Rch.st (fun _ k => XS.ifNo X218.here hx rfl (hb hby at_137) rfl (by decide : ifCond.holds .le (1 : Int32) = false) k) ?_
      show Rch p e below T218 (mkF m 140 #[vI p0, vI p1, vI p2, vI p3, vI p4, vI (1 : Int32), vI c0, vI c1, vI c2, vI c3, vR a215, .unset] []) _
      refine Rch.st (fun _ k => XS.iload X218.here hx rfl (hb hby at_140) rfl k) ?_
      show Rch p e below T218 (mkF m 142 #[vI p0, vI p1, vI p2, vI p3, vI p4, vI (1 : Int32), vI c0, vI c1, vI c2, vI c3, vR a215, .unset] [(.int c0)]) _
      obtain ⟨_, _, ⟨T235, L235, k235, n235⟩, -, X235, ⟨Lc235, hQ235, l235, y235, z235⟩, st235⟩ := Jvm.LawKit.callS X218 hx (y := (⟨"com/example/permitd/permitd/http/HeadersIsTokenPinLaw", "tok", "(C)Z"⟩ : MethodName)) hown (mvT hZ (wq hw 31 rfl)) (mvT hZ (wq hw 32 rfl)) (mvT hZ (wq hw 33 rfl)) (mvT hZ (wq hw 34 rfl)) (by decide) (backOf (W := 0) (rm_tok l Z a0 hw [] c0 h218 n0 (Nat.le_trans Z0 Ex219.1) k0.1.1) hZ (wq hw 34 rfl) (wq hw 33 rfl) (by decide) (by decide)) (g := (mkF m 142 #[vI p0, vI p1, vI p2, vI p3, vI p4, vI (1 : Int32), vI c0, vI c1, vI c2, vI c3, vR a215, .unset] [(.int c0)])) rfl (by rw [hml]; rfl) (argsL := [(.int c0)]) (rest := []) (lenOf pd_20 rfl) rfl (by show 2 * 0 + _ ≤ _; exact Nat.le_of_eq rfl) (hb hby at_142) (fun _ _ => ⟨rfl, e218, (by decide : 1 + 0 ≤ _), (by decide : 1 + 0 ≤ _)⟩)
      dsimp only [Pt.U, Pt.locs, Pt.cells, Pt.slots] at X235 l235 y235 z235 st235 hQ235
      subst l235 y235 z235
      obtain ⟨r235, rfl, Nq235, e235, u235, v235⟩ := hQ235
      have N235 := Fr.app N218 Nq235
      refine Rch.st st235 ?_
      show Rch p e below T235 (mkF m 145 #[vI p0, vI p1, vI p2, vI p3, vI p4, vI (1 : Int32), vI c0, vI c1, vI c2, vI c3, vR a215, .unset] [(.int r235)]) _
      by_cases q0 : tokB c0 = true
      · skip
        obtain rfl : r235 = 1 := u235 q0
        show Rch p e below T235 (mkF m 145 #[vI p0, vI p1, vI p2, vI p3, vI p4, vI (1 : Int32), vI c0, vI c1, vI c2, vI c3, vR a215, .unset] [(.int (1 : Int32))]) _
        refine Rch.st (fun _ k => XS.ifNo X235.here hx rfl (hb hby at_145) rfl (by decide : ifCond.holds .eq (1 : Int32) = false) k) ?_
        refine Rch.st (fun _ k => XS.iload X235.here hx rfl (hb hby at_148) rfl k) ?_
        show Rch p e below T235 (mkF m 150 #[vI p0, vI p1, vI p2, vI p3, vI p4, vI (1 : Int32), vI c0, vI c1, vI c2, vI c3, vR a215, .unset] [(.int (1 : Int32))]) _
        refine Rch.st (fun _ k => XS.iconst X235.here hx rfl (hb hby at_150)  k) ?_
        refine Rch.st (fun _ k => XS.icmpYes X235.here hx rfl (pc0 := 151) (pc' := 162) rfl (hb hby at_151) rfl (by decide : if_icmp.holds .lt (1 : Int32) (2 : Int32) = true) (by decide) (by decide) k) ?_
        show Rch p e below T235 (mkF m 162 #[vI p0, vI p1, vI p2, vI p3, vI p4, vI (1 : Int32), vI c0, vI c1, vI c2, vI c3, vR a215, .unset] []) _
        refine Rch.st (fun _ k => XS.iload X235.here hx rfl (hb hby at_162) rfl k) ?_
        refine Rch.st (fun _ k => XS.iconst X235.here hx rfl (hb hby at_164)  k) ?_
        show Rch p e below T235 (mkF m 165 #[vI p0, vI p1, vI p2, vI p3, vI p4, vI (1 : Int32), vI c0, vI c1, vI c2, vI c3, vR a215, .unset] [(.int (3 : Int32)), (.int (1 : Int32))]) _
        refine Rch.st (fun _ k => XS.icmpYes X235.here hx rfl (pc0 := 165) (pc' := 176) rfl (hb hby at_165) rfl (by decide : if_icmp.holds .lt (1 : Int32) (3 : Int32) = true) (by decide) (by decide) k) ?_
        refine Rch.st (fun _ k => XS.iload X235.here hx rfl (hb hby at_176) rfl k) ?_
        show Rch p e below T235 (mkF m 178 #[vI p0, vI p1, vI p2, vI p3, vI p4, vI (1 : Int32), vI c0, vI c1, vI c2, vI c3, vR a215, .unset] [(.int (1 : Int32))]) _
        refine Rch.st (fun _ k => XS.iconst X235.here hx rfl (hb hby at_178)  k) ?_
        refine Rch.st (fun _ k => XS.icmpYes X235.here hx rfl (pc0 := 179) (pc' := 190) rfl (hb hby at_179) rfl (by decide : if_icmp.holds .lt (1 : Int32) (4 : Int32) = true) (by decide) (by decide) k) ?_
        show Rch p e below T235 (mkF m 190 #[vI p0, vI p1, vI p2, vI p3, vI p4, vI (1 : Int32), vI c0, vI c1, vI c2, vI c3, vR a215, .unset] []) _
        refine Rch.st (fun _ k => XS.iconst X235.here hx rfl (hb hby at_190)  k) ?_
        refine Rch.st (fun _ k => XS.goto X235.here hx rfl (pc0 := 191) (pc' := 195) rfl (hb hby at_191) (by decide) (by decide) k) ?_
        show Rch p e below T235 (mkF m 195 #[vI p0, vI p1, vI p2, vI p3, vI p4, vI (1 : Int32), vI c0, vI c1, vI c2, vI c3, vR a215, .unset] [(.int (1 : Int32))]) _
        refine Rch.st (fun _ k => XS.istore X235.here hx rfl (hb hby at_195) rfl (l' := #[vI p0, vI p1, vI p2, vI p3, vI p4, vI (1 : Int32), vI c0, vI c1, vI c2, vI c3, vR a215, vI (1 : Int32)]) rfl k) ?_
        show Rch p e below T235 (mkF m 197 #[vI p0, vI p1, vI p2, vI p3, vI p4, vI (1 : Int32), vI c0, vI c1, vI c2, vI c3, vR a215, vI (1 : Int32)] []) _
        have R236 := R0.trans (CHr.ext Ex219 R0.1)
        have hk237 := Nat.le_trans (Nat.zero_le _) Ex219.1
        exact fin _ _ _ _ _ _ X235 e235 N235 Ex219 hS0 hk237 hZ hown R236 V218' (Or.inl ⟨rfl, ⟨List.cons_ne_nil _ _, by simp [q0]⟩⟩)
      · skip
        obtain rfl : r235 = 0 := v235 q0
        show Rch p e below T235 (mkF m 145 #[vI p0, vI p1, vI p2, vI p3, vI p4, vI (1 : Int32), vI c0, vI c1, vI c2, vI c3, vR a215, .unset] [(.int (0 : Int32))]) _
        refine Rch.st (fun _ k => XS.ifYes X235.here hx rfl (pc0 := 145) (pc' := 194) rfl (hb hby at_145) rfl (by decide : ifCond.holds .eq (0 : Int32) = true) (by decide) (by decide) k) ?_
        refine Rch.st (fun _ k => XS.iconst X235.here hx rfl (hb hby at_194)  k) ?_
        show Rch p e below T235 (mkF m 195 #[vI p0, vI p1, vI p2, vI p3, vI p4, vI (1 : Int32), vI c0, vI c1, vI c2, vI c3, vR a215, .unset] [(.int (0 : Int32))]) _
        refine Rch.st (fun _ k => XS.istore X235.here hx rfl (hb hby at_195) rfl (l' := #[vI p0, vI p1, vI p2, vI p3, vI p4, vI (1 : Int32), vI c0, vI c1, vI c2, vI c3, vR a215, vI (0 : Int32)]) rfl k) ?_
        show Rch p e below T235 (mkF m 197 #[vI p0, vI p1, vI p2, vI p3, vI p4, vI (1 : Int32), vI c0, vI c1, vI c2, vI c3, vR a215, vI (0 : Int32)] []) _
        have R238 := R0.trans (CHr.ext Ex219 R0.1)
        have hk239 := Nat.le_trans (Nat.zero_le _) Ex219.1
        exact fin _ _ _ _ _ _ X235 e235 N235 Ex219 hS0 hk239 hZ hown R238 V218' (Or.inr ⟨rfl, fun z => q0 (z.2 c0 (by simp))⟩)
    · skip
      refine Rch.st (fun _ k => XS.icmpYes X0.here hx rfl (pc0 := 41) (pc' := 57) rfl (hb hby at_41) rfl (feq hn1).2 (by decide) (by decide) k) ?_
      refine Rch.st (fun _ k => XS.iload X0.here hx rfl (hb hby at_57) rfl k) ?_
      show Rch p e below s₁ (mkF m 59 #[vI p0, vI p1, vI p2, vI p3, vI p4, vI ln, vI c0, vI c1, vI c2, vI c3, .unset, .unset] [(.int ln)]) _
      refine Rch.st (fun _ k => XS.iconst X0.here hx rfl (hb hby at_59)  k) ?_
      show Rch p e below s₁ (mkF m 60 #[vI p0, vI p1, vI p2, vI p3, vI p4, vI ln, vI c0, vI c1, vI c2, vI c3, .unset, .unset] [(.int (2 : Int32)), (.int ln)]) _
      by_cases hn2 : ln = (2 : Int32)
      · skip
        refine Rch.st (fun _ k => XS.icmpNo X0.here hx rfl (hb hby at_60) rfl (teq hn2).2 k) ?_
        show Rch p e below s₁ (mkF m 63 #[vI p0, vI p1, vI p2, vI p3, vI p4, vI ln, vI c0, vI c1, vI c2, vI c3, .unset, .unset] []) _
        subst hn2
        show Rch p e below s₁ (mkF m 63 #[vI p0, vI p1, vI p2, vI p3, vI p4, vI (2 : Int32), vI c0, vI c1, vI c2, vI c3, .unset, .unset] []) _
        refine Rch.st (fun _ k => XS.iconst X0.here hx rfl (hb hby at_63)  k) ?_
        show Rch p e below s₁ (mkF m 64 #[vI p0, vI p1, vI p2, vI p3, vI p4, vI (2 : Int32), vI c0, vI c1, vI c2, vI c3, .unset, .unset] [(.int (2 : Int32))]) _
        obtain ⟨T240, h240, k240, X240, e240, E240, A240, st240⟩ := newP X0 hx hZ (wq hw 0 rfl) e0 (g := (mkF m 64 #[vI p0, vI p1, vI p2, vI p3, vI p4, vI (2 : Int32), vI c0, vI c1, vI c2, vI c3, .unset, .unset] [(.int (2 : Int32))])) rfl (hb hby at_64) rfl (by decide : ¬ ((2 : Int32) < (0 : Int32))) (cap := 2) (by decide : ((2 : Int32)).toNatClampNeg ≤ 2) (by decide) (by decide) (by decide)
        obtain ⟨a240, g240⟩ : ∃ z, z = h0.size := ⟨_, rfl⟩
        rw [← g240] at A240 st240
        have Ex241 : Ext h0 h240 := E240
        have le242 : h0.size ≤ a240 := Nat.le_of_eq g240.symm
        refine Rch.st st240 ?_
        show Rch p e below T240 (mkF m 66 #[vI p0, vI p1, vI p2, vI p3, vI p4, vI (2 : Int32), vI c0, vI c1, vI c2, vI c3, .unset, .unset] [(.ref a240)]) _
        have V240 : Arv Z h240 a240 k240 .char (2 : Int32) [(.int (0 : Int32)), (.int (0 : Int32))] (.int (0 : Int32)) := (Arv.new A240 (by decide : ¬ ((2 : Int32) < (0 : Int32)))).pad (pad_rep [] (.int (0 : Int32)) 2)
        refine Rch.st (fun _ k => XS.dup X240.here hx rfl (hb hby at_66) rfl rfl k) ?_
        refine Rch.st (fun _ k => XS.iconst X240.here hx rfl (hb hby at_67)  k) ?_
        show Rch p e below T240 (mkF m 68 #[vI p0, vI p1, vI p2, vI p3, vI p4, vI (2 : Int32), vI c0, vI c1, vI c2, vI c3, .unset, .unset] [(.int (0 : Int32)), (.ref a240), (.ref a240)]) _
        refine Rch.st (fun _ k => XS.iload X240.here hx rfl (hb hby at_68) rfl k) ?_
        show Rch p e below T240 (mkF m 70 #[vI p0, vI p1, vI p2, vI p3, vI p4, vI (2 : Int32), vI c0, vI c1, vI c2, vI c3, .unset, .unset] [(.int c0), (.int (0 : Int32)), (.ref a240), (.ref a240)]) _
        obtain ⟨T243, h243, L243, sl243, X243, e243, W243, V243, N243, st243⟩ := stCv X240 hx hZ e240 V240 N0 (Nat.le_trans Z0 le242) (j := (0 : Int32)) ⟨by decide, by decide⟩ 0 rfl (Nat.le_of_ble_eq_true rfl) (g := (mkF m 70 #[vI p0, vI p1, vI p2, vI p3, vI p4, vI (2 : Int32), vI c0, vI c1, vI c2, vI c3, .unset, .unset] [(.int c0), (.int (0 : Int32)), (.ref a240), (.ref a240)])) rfl rfl (hb hby at_70)
        have V243_ := V243
        rw [k0.2] at V243_
        have V243' : Arv Z h243 a240 k240 .char (2 : Int32) [(.int c0), (.int (0 : Int32))] (.int (0 : Int32)) := V243_
        have Ex244 : Ext h0 h243 := extWr Ex241 W243 le242
        refine Rch.st st243 ?_
        show Rch p e below T243 (mkF m 71 #[vI p0, vI p1, vI p2, vI p3, vI p4, vI (2 : Int32), vI c0, vI c1, vI c2, vI c3, .unset, .unset] [(.ref a240)]) _
        refine Rch.st (fun _ k => XS.dup X243.here hx rfl (hb hby at_71) rfl rfl k) ?_
        refine Rch.st (fun _ k => XS.iconst X243.here hx rfl (hb hby at_72)  k) ?_
        show Rch p e below T243 (mkF m 73 #[vI p0, vI p1, vI p2, vI p3, vI p4, vI (2 : Int32), vI c0, vI c1, vI c2, vI c3, .unset, .unset] [(.int (1 : Int32)), (.ref a240), (.ref a240)]) _
        refine Rch.st (fun _ k => XS.iload X243.here hx rfl (hb hby at_73) rfl k) ?_
        show Rch p e below T243 (mkF m 75 #[vI p0, vI p1, vI p2, vI p3, vI p4, vI (2 : Int32), vI c0, vI c1, vI c2, vI c3, .unset, .unset] [(.int c1), (.int (1 : Int32)), (.ref a240), (.ref a240)]) _
        obtain ⟨T245, h245, L245, sl245, X245, e245, W245, V245, N245, st245⟩ := stCv X243 hx hZ e243 V243' N243 (Nat.le_trans Z0 le242) (j := (1 : Int32)) ⟨by decide, by decide⟩ 1 rfl (Nat.le_of_ble_eq_true rfl) (g := (mkF m 75 #[vI p0, vI p1, vI p2, vI p3, vI p4, vI (2 : Int32), vI c0, vI c1, vI c2, vI c3, .unset, .unset] [(.int c1), (.int (1 : Int32)), (.ref a240), (.ref a240)])) rfl rfl (hb hby at_75)
        have V245_ := V245
        rw [k1.2] at V245_
        have V245' : Arv Z h245 a240 k240 .char (2 : Int32) [(.int c0), (.int c1)] (.int (0 : Int32)) := V245_
        have Ex246 : Ext h0 h245 := extWr Ex244 W245 le242
        refine Rch.st st245 ?_
        show Rch p e below T245 (mkF m 76 #[vI p0, vI p1, vI p2, vI p3, vI p4, vI (2 : Int32), vI c0, vI c1, vI c2, vI c3, .unset, .unset] [(.ref a240)]) _
        refine Rch.st (fun _ k => XS.astore X245.here hx rfl (hb hby at_76) rfl rfl (l' := #[vI p0, vI p1, vI p2, vI p3, vI p4, vI (2 : Int32), vI c0, vI c1, vI c2, vI c3, vR a240, .unset]) rfl k) ?_
        refine Rch.st (fun _ k => XS.goto X245.here hx rfl (pc0 := 78) (pc' := 135) rfl (hb hby at_78) (by decide) (by decide) k) ?_
        show Rch p e below T245 (mkF m 135 #[vI p0, vI p1, vI p2, vI p3, vI p4, vI (2 : Int32), vI c0, vI c1, vI c2, vI c3, vR a240, .unset] []) _
        have fin : ∀ (T247 : State) (lc247 : List Loc) (h247 : Heap) (vm247 : Vm) (k0_247 : Nat) (ex : Int32), Stand p l e room_1 (s.setVm vm247) m #[(.int p0), (.int p1), (.int p2), (.int p3), (.int p4)] below meth c T247 lc247 1 2 → T247.heap = h247 → Fr n0 lc247 → Ext h0 h247 → s.Since vm247 k0_247 → k0_247 ≤ h247.size → Z.Warmed39 (s.setVm vm247).vm → (s.setVm vm247).vm.findClass "com/example/permitd/permitd/http/HeadersIsTokenPinLaw" = some m.cls → CHr Z EL s.vm s.heap vm247 h247 → (Arv Z h247 a240 k240 .char (2 : Int32) [(.int c0), (.int c1)] (.int (0 : Int32))) → ((ex = 1 ∧ (¬ ([c0, c1] : List Int32) = [] ∧ ∀ c ∈ ([c0, c1] : List Int32), tokB c = true)) ∨ (ex = 0 ∧ ¬ (¬ ([c0, c1] : List Int32) = [] ∧ ∀ c ∈ ([c0, c1] : List Int32), tokB c = true))) → Rch p e below T247 (mkF m 197 #[vI p0, vI p1, vI p2, vI p3, vI p4, vI (2 : Int32), vI c0, vI c1, vI c2, vI c3, vR a240, vI ex] []) (fun U o => ∃ v L, o = .returned v ∧ Q_law Z p0 p1 p2 p3 p4 fm h0 n0 v U.heap L ∧ CHr Z EL s.vm s.heap U.vm U.heap ∧ ReturnedEndW s o U L 24 2176) := by
          intro T247 lc247 h247 vm247 k0_247 ex X247 e247 N247 Ex247 hS247 hk247 hZ247 hown247 R247 MV hex
          show Rch p e below T247 (mkF m 197 #[vI p0, vI p1, vI p2, vI p3, vI p4, vI (2 : Int32), vI c0, vI c1, vI c2, vI c3, vR a240, vI ex] []) _
          obtain ⟨T248, h248, X248, e248, E248, A248, D248, -, st248⟩ := newO X247 hx hZ247 hown247 (wq hw 1 rfl) (wq hw 2 rfl) (wq hw 3 rfl) e247 (g := (mkF m 197 #[vI p0, vI p1, vI p2, vI p3, vI p4, vI (2 : Int32), vI c0, vI c1, vI c2, vI c3, vR a240, vI ex] [])) rfl (hb hby at_197) (by decide) (by decide)
          obtain ⟨a248, g248⟩ : ∃ z, z = h247.size := ⟨_, rfl⟩
          rw [← g248] at A248 D248 st248
          have Ex249 : Ext h0 h248 := Ex247.tr E248
          have Ex250 : Ext h247 h248 := E248
          have le251 : h0.size ≤ a248 := Nat.le_trans Ex247.1 (Nat.le_of_eq g248.symm)
          have le252 : h247.size ≤ a248 := Nat.le_of_eq g248.symm
          refine Rch.st st248 ?_
          show Rch p e below T248 (mkF m 200 #[vI p0, vI p1, vI p2, vI p3, vI p4, vI (2 : Int32), vI c0, vI c1, vI c2, vI c3, vR a240, vI ex] [(.ref a248)]) _
          refine Rch.st (fun _ k => XS.dup X248.here hx rfl (hb hby at_200) rfl rfl k) ?_
          refine Rch.st (fun _ k => XS.aload X248.here hx rfl (hb hby at_201) rfl rfl k) ?_
          show Rch p e below T248 (mkF m 203 #[vI p0, vI p1, vI p2, vI p3, vI p4, vI (2 : Int32), vI c0, vI c1, vI c2, vI c3, vR a240, vI ex] [(.ref a240), (.ref a248), (.ref a248)]) _
          obtain ⟨_, _, ⟨T253, L253, k253, n253⟩, -, X253, ⟨Lc253, hQ253, l253, y253, z253⟩, st253⟩ := X248.specialBack hx (y := (⟨"java/lang/String", "<init>", "([C)V"⟩ : MethodName)) rfl hown247 (mvT hZ247 (wq hw 4 rfl)) (mvT hZ247 (wq hw 5 rfl)) (mvT hZ247 (wq hw 6 rfl)) (by decide) (newS (W := 1) hZ247 hw (cs := [c0, c1]) (Nat.le_trans Z0 le251) (Nat.le_trans Z0 Ex249.1) A248 ((D248 (Or.inr (wq hw 16 rfl)) (ty := (.array .byte)) (by decide)).ext Ext.rf) ((D248 (Or.inr (wq hw 17 rfl)) (ty := .byte) (by decide)).ext Ext.rf) (MV.ext Ex250) (B.ext Ex249) (c16_cons k0.1 (c16_cons k1.1 c16_nil)) (Nat.le_of_ble_eq_true rfl) (Nat.le_of_ble_eq_true rfl) (by decide) (by decide)) (g := (mkF m 203 #[vI p0, vI p1, vI p2, vI p3, vI p4, vI (2 : Int32), vI c0, vI c1, vI c2, vI c3, vR a240, vI ex] [(.ref a240), (.ref a248), (.ref a248)])) rfl (by rw [hml]; rfl) (Steps.refl _) (a := a248) (argsL := [(.ref a240)]) (rest := [(.ref a248)]) (lenOf pd_18 rfl) rfl (by show 2 * 0 + _ ≤ _; exact Nat.le_of_eq rfl) (hb hby at_203) (fun _ _ => ⟨rfl, e248, (by decide : 2 + 2 ≤ _), (by decide : 6 + 12 ≤ _)⟩)
          dsimp only [Pt.U, Pt.locs, Pt.cells, Pt.slots] at X253 l253 y253 z253 st253 hQ253
          subst l253 y253 z253
          obtain ⟨rfl, Nq253, K253, Q253⟩ := hQ253
          have N253 := Fr.app N247 Nq253
          have Ex254 : Ext h0 T253.heap := extKeep1 Ex249 K253 le251
          have Ex255 : Ext h247 T253.heap := extKeep1 Ex250 K253 le252
          refine Rch.go st253 ?_
          show Rch p e below T253 (mkF m 206 #[vI p0, vI p1, vI p2, vI p3, vI p4, vI (2 : Int32), vI c0, vI c1, vI c2, vI c3, vR a240, vI ex] [(.ref a248)]) _
          have R256 := R247.trans (CHr.ext Ex255 R247.1)
          have hk257 := Nat.le_trans hk247 Ex255.1
          obtain ⟨_, _, ⟨T258, L258, k258, n258⟩, -, X258_, hS258_, hg258_, ⟨Lc258, hQ258, l258, y258, z258, CR258⟩, st258⟩ := callSS X253 hx (y := (⟨"com/example/permitd/permitd/http/Headers", "isToken", "(Ljava/lang/String;)Z"⟩ : MethodName)) hown247 (mvT hZ247 (wq hw 22 rfl)) (mvT hZ247 (wq hw 23 rfl)) (mvT hZ247 (wq hw 24 rfl)) (mvT hZ247 (wq hw 25 rfl)) (by decide) (backOfSH (W := 0) (rm_isTok l Z a0 hw [] a248 ([c0, c1] : List Int32) fm T253.heap n0 (Nat.le_trans Z0 Ex254.1) Q253 (B.ext Ex254) (Nat.le_of_ble_eq_true rfl)) hZ247 (wq hw 25 rfl) (wq hw 24 rfl) (by decide) (by decide) hEL R256.1) (g := (mkF m 206 #[vI p0, vI p1, vI p2, vI p3, vI p4, vI (2 : Int32), vI c0, vI c1, vI c2, vI c3, vR a240, vI ex] [(.ref a248)])) rfl (by rw [hml]; rfl) (argsL := [(.ref a248)]) (rest := []) (lenOf pd_19 rfl) rfl (by show 2 * 0 + _ ≤ _; exact Nat.le_of_eq rfl) (hb hby at_206) (fun _ _ => ⟨rfl, rfl, (by decide : 4 + 8 ≤ _), (by decide : 18 + 256 ≤ _)⟩)
          dsimp only [Pt.U, Pt.locs, Pt.cells, Pt.slots] at X258_ hS258_ hg258_ l258 y258 z258 st258 hQ258 CR258
          subst l258 y258 z258
          obtain ⟨X258, hS258, hZ258, hown258⟩ := rebS hS247 hk257 X258_ hS258_ hg258_ hZ247 hown247
          obtain ⟨r258, rfl, Nq258, E258, u258, v258⟩ := hQ258
          have N258 := Fr.app N253 Nq258
          have R258 := R256.trans CR258
          have Ex259 : Ext h0 T258.heap := Ex254.tr E258
          have Ex260 : Ext h247 T258.heap := Ex255.tr E258
          have Ex261 : Ext T253.heap T258.heap := E258
          refine Rch.go st258 ?_
          show Rch p e below T258 (mkF m 209 #[vI p0, vI p1, vI p2, vI p3, vI p4, vI (2 : Int32), vI c0, vI c1, vI c2, vI c3, vR a240, vI ex] [(.int r258)]) _
          obtain ⟨rfl, hq⟩ | ⟨rfl, hq⟩ := hex
          · skip
            obtain rfl : r258 = 1 := u258 hq
            show Rch p e below T258 (mkF m 209 #[vI p0, vI p1, vI p2, vI p3, vI p4, vI (2 : Int32), vI c0, vI c1, vI c2, vI c3, vR a240, vI (1 : Int32)] [(.int (1 : Int32))]) _
            refine Rch.st (fun _ k => XS.iload X258.here hx rfl (hb hby at_209) rfl k) ?_
            refine Rch.st (fun _ k => XS.icmpNo X258.here hx rfl (hb hby at_211) rfl (by decide : if_icmp.holds .ne (1 : Int32) (1 : Int32) = false) k) ?_
            show Rch p e below T258 (mkF m 214 #[vI p0, vI p1, vI p2, vI p3, vI p4, vI (2 : Int32), vI c0, vI c1, vI c2, vI c3, vR a240, vI (1 : Int32)] []) _
            refine Rch.st (fun _ k => XS.iconst X258.here hx rfl (hb hby at_214)  k) ?_
            refine Rch.st (fun _ k => XS.goto X258.here hx rfl (pc0 := 215) (pc' := 219) rfl (hb hby at_215) (by decide) (by decide) k) ?_
            show Rch p e below T258 (mkF m 219 #[vI p0, vI p1, vI p2, vI p3, vI p4, vI (2 : Int32), vI c0, vI c1, vI c2, vI c3, vR a240, vI (1 : Int32)] [(.int (1 : Int32))]) _
            exact Rch.finW (Q := Q_law Z p0 p1 p2 p3 p4 fm h0 n0) X258 hZ258 hEL hS258 (Nat.le_refl _) rfl R258 (v := some (.int (1 : Int32))) (fun h => by rw [Bd.returns] at h; cases h) (BodyLoose.notSynchronized Bd) (fun fs hr => retN X258 hx (t := .boolean) Bd.returns (by simp) (hb hby at_219) hr) ⟨rfl, N258⟩ (by decide) (by decide)
          · skip
            obtain rfl : r258 = 0 := v258 hq
            show Rch p e below T258 (mkF m 209 #[vI p0, vI p1, vI p2, vI p3, vI p4, vI (2 : Int32), vI c0, vI c1, vI c2, vI c3, vR a240, vI (0 : Int32)] [(.int (0 : Int32))]) _
            refine Rch.st (fun _ k => XS.iload X258.here hx rfl (hb hby at_209) rfl k) ?_
            refine Rch.st (fun _ k => XS.icmpNo X258.here hx rfl (hb hby at_211) rfl (by decide : if_icmp.holds .ne (0 : Int32) (0 : Int32) = false) k) ?_
            show Rch p e below T258 (mkF m 214 #[vI p0, vI p1, vI p2, vI p3, vI p4, vI (2 : Int32), vI c0, vI c1, vI c2, vI c3, vR a240, vI (0 : Int32)] []) _
            refine Rch.st (fun _ k => XS.iconst X258.here hx rfl (hb hby at_214)  k) ?_
            refine Rch.st (fun _ k => XS.goto X258.here hx rfl (pc0 := 215) (pc' := 219) rfl (hb hby at_215) (by decide) (by decide) k) ?_
            show Rch p e below T258 (mkF m 219 #[vI p0, vI p1, vI p2, vI p3, vI p4, vI (2 : Int32), vI c0, vI c1, vI c2, vI c3, vR a240, vI (0 : Int32)] [(.int (1 : Int32))]) _
            exact Rch.finW (Q := Q_law Z p0 p1 p2 p3 p4 fm h0 n0) X258 hZ258 hEL hS258 (Nat.le_refl _) rfl R258 (v := some (.int (1 : Int32))) (fun h => by rw [Bd.returns] at h; cases h) (BodyLoose.notSynchronized Bd) (fun fs hr => retN X258 hx (t := .boolean) Bd.returns (by simp) (hb hby at_219) hr) ⟨rfl, N258⟩ (by decide) (by decide)
        refine Rch.st (fun _ k => XS.iload X245.here hx rfl (hb hby at_135) rfl k) ?_
        refine Rch.st (fun _ k => XS.ifNo X245.here hx rfl (hb hby at_137) rfl (by decide : ifCond.holds .le (2 : Int32) = false) k) ?_
        show Rch p e below T245 (mkF m 140 #[vI p0, vI p1, vI p2, vI p3, vI p4, vI (2 : Int32), vI c0, vI c1, vI c2, vI c3, vR a240, .unset] []) _
        refine Rch.st (fun _ k => XS.iload X245.here hx rfl (hb hby at_140) rfl k) ?_
        show Rch p e below T245 (mkF m 142 #[vI p0, vI p1, vI p2, vI p3, vI p4, vI (2 : Int32), vI c0, vI c1, vI c2, vI c3, vR a240, .unset] [(.int c0)]) _
        obtain ⟨_, _, ⟨T262, L262, k262, n262⟩, -, X262, ⟨Lc262, hQ262, l262, y262, z262⟩, st262⟩ := Jvm.LawKit.callS X245 hx (y := (⟨"com/example/permitd/permitd/http/HeadersIsTokenPinLaw", "tok", "(C)Z"⟩ : MethodName)) hown (mvT hZ (wq hw 31 rfl)) (mvT hZ (wq hw 32 rfl)) (mvT hZ (wq hw 33 rfl)) (mvT hZ (wq hw 34 rfl)) (by decide) (backOf (W := 0) (rm_tok l Z a0 hw [] c0 h245 n0 (Nat.le_trans Z0 Ex246.1) k0.1.1) hZ (wq hw 34 rfl) (wq hw 33 rfl) (by decide) (by decide)) (g := (mkF m 142 #[vI p0, vI p1, vI p2, vI p3, vI p4, vI (2 : Int32), vI c0, vI c1, vI c2, vI c3, vR a240, .unset] [(.int c0)])) rfl (by rw [hml]; rfl) (argsL := [(.int c0)]) (rest := []) (lenOf pd_20 rfl) rfl (by show 2 * 0 + _ ≤ _; exact Nat.le_of_eq rfl) (hb hby at_142) (fun _ _ => ⟨rfl, e245, (by decide : 1 + 0 ≤ _), (by decide : 2 + 0 ≤ _)⟩)
        dsimp only [Pt.U, Pt.locs, Pt.cells, Pt.slots] at X262 l262 y262 z262 st262 hQ262
        subst l262 y262 z262
        obtain ⟨r262, rfl, Nq262, e262, u262, v262⟩ := hQ262
        have N262 := Fr.app N245 Nq262
        refine Rch.st st262 ?_
        show Rch p e below T262 (mkF m 145 #[vI p0, vI p1, vI p2, vI p3, vI p4, vI (2 : Int32), vI c0, vI c1, vI c2, vI c3, vR a240, .unset] [(.int r262)]) _
        by_cases q0 : tokB c0 = true
        · skip
          obtain rfl : r262 = 1 := u262 q0
          show Rch p e below T262 (mkF m 145 #[vI p0, vI p1, vI p2, vI p3, vI p4, vI (2 : Int32), vI c0, vI c1, vI c2, vI c3, vR a240, .unset] [(.int (1 : Int32))]) _
          refine Rch.st (fun _ k => XS.ifNo X262.here hx rfl (hb hby at_145) rfl (by decide : ifCond.holds .eq (1 : Int32) = false) k) ?_
          refine Rch.st (fun _ k => XS.iload X262.here hx rfl (hb hby at_148) rfl k) ?_
          show Rch p e below T262 (mkF m 150 #[vI p0, vI p1, vI p2, vI p3, vI p4, vI (2 : Int32), vI c0, vI c1, vI c2, vI c3, vR a240, .unset] [(.int (2 : Int32))]) _
          refine Rch.st (fun _ k => XS.iconst X262.here hx rfl (hb hby at_150)  k) ?_
          refine Rch.st (fun _ k => XS.icmpNo X262.here hx rfl (hb hby at_151) rfl (by decide : if_icmp.holds .lt (2 : Int32) (2 : Int32) = false) k) ?_
          show Rch p e below T262 (mkF m 154 #[vI p0, vI p1, vI p2, vI p3, vI p4, vI (2 : Int32), vI c0, vI c1, vI c2, vI c3, vR a240, .unset] []) _
          refine Rch.st (fun _ k => XS.iload X262.here hx rfl (hb hby at_154) rfl k) ?_
          show Rch p e below T262 (mkF m 156 #[vI p0, vI p1, vI p2, vI p3, vI p4, vI (2 : Int32), vI c0, vI c1, vI c2, vI c3, vR a240, .unset] [(.int c1)]) _
          obtain ⟨_, _, ⟨T263, L263, k263, n263⟩, -, X263, ⟨Lc263, hQ263, l263, y263, z263⟩, st263⟩ := Jvm.LawKit.callS X262 hx (y := (⟨"com/example/permitd/permitd/http/HeadersIsTokenPinLaw", "tok", "(C)Z"⟩ : MethodName)) hown (mvT hZ (wq hw 31 rfl)) (mvT hZ (wq hw 32 rfl)) (mvT hZ (wq hw 33 rfl)) (mvT hZ (wq hw 34 rfl)) (by decide) (backOf (W := 0) (rm_tok l Z a0 hw [] c1 h245 n0 (Nat.le_trans Z0 Ex246.1) k1.1.1) hZ (wq hw 34 rfl) (wq hw 33 rfl) (by decide) (by decide)) (g := (mkF m 156 #[vI p0, vI p1, vI p2, vI p3, vI p4, vI (2 : Int32), vI c0, vI c1, vI c2, vI c3, vR a240, .unset] [(.int c1)])) rfl (by rw [hml]; rfl) (argsL := [(.int c1)]) (rest := []) (lenOf pd_20 rfl) rfl (by show 2 * 0 + _ ≤ _; exact Nat.le_of_eq rfl) (hb hby at_156) (fun _ _ => ⟨rfl, e262, (by decide : 1 + 0 ≤ _), (by decide : 2 + 0 ≤ _)⟩)
          dsimp only [Pt.U, Pt.locs, Pt.cells, Pt.slots] at X263 l263 y263 z263 st263 hQ263
          subst l263 y263 z263
          obtain ⟨r263, rfl, Nq263, e263, u263, v263⟩ := hQ263
          have N263 := Fr.app N262 Nq263
          refine Rch.st st263 ?_
          show Rch p e below T263 (mkF m 159 #[vI p0, vI p1, vI p2, vI p3, vI p4, vI (2 : Int32), vI c0, vI c1, vI c2, vI c3, vR a240, .unset] [(.int r263)]) _
          by_cases q1 : tokB c1 = true
          · skip
            obtain rfl : r263 = 1 := u263 q1
            show Rch p e below T263 (mkF m 159 #[vI p0, vI p1, vI p2, vI p3, vI p4, vI (2 : Int32), vI c0, vI c1, vI c2, vI c3, vR a240, .unset] [(.int (1 : Int32))]) _
            refine Rch.st (fun _ k => XS.ifNo X263.here hx rfl (hb hby at_159) rfl (by decide : ifCond.holds .eq (1 : Int32) = false) k) ?_
            refine Rch.st (fun _ k => XS.iload X263.here hx rfl (hb hby at_162) rfl k) ?_
            show Rch p e below T263 (mkF m 164 #[vI p0, vI p1, vI p2, vI p3, vI p4, vI (2 : Int32), vI c0, vI c1, vI c2, vI c3, vR a240, .unset] [(.int (2 : Int32))]) _
            refine Rch.st (fun _ k => XS.iconst X263.here hx rfl (hb hby at_164)  k) ?_
            refine Rch.st (fun _ k => XS.icmpYes X263.here hx rfl (pc0 := 165) (pc' := 176) rfl (hb hby at_165) rfl (by decide : if_icmp.holds .lt (2 : Int32) (3 : Int32) = true) (by decide) (by decide) k) ?_
            show Rch p e below T263 (mkF m 176 #[vI p0, vI p1, vI p2, vI p3, vI p4, vI (2 : Int32), vI c0, vI c1, vI c2, vI c3, vR a240, .unset] []) _
            refine Rch.st (fun _ k => XS.iload X263.here hx rfl (hb hby at_176) rfl k) ?_
            refine Rch.st (fun _ k => XS.iconst X263.here hx rfl (hb hby at_178)  k) ?_
            show Rch p e below T263 (mkF m 179 #[vI p0, vI p1, vI p2, vI p3, vI p4, vI (2 : Int32), vI c0, vI c1, vI c2, vI c3, vR a240, .unset] [(.int (4 : Int32)), (.int (2 : Int32))]) _
            refine Rch.st (fun _ k => XS.icmpYes X263.here hx rfl (pc0 := 179) (pc' := 190) rfl (hb hby at_179) rfl (by decide : if_icmp.holds .lt (2 : Int32) (4 : Int32) = true) (by decide) (by decide) k) ?_
            refine Rch.st (fun _ k => XS.iconst X263.here hx rfl (hb hby at_190)  k) ?_
            show Rch p e below T263 (mkF m 191 #[vI p0, vI p1, vI p2, vI p3, vI p4, vI (2 : Int32), vI c0, vI c1, vI c2, vI c3, vR a240, .unset] [(.int (1 : Int32))]) _
            refine Rch.st (fun _ k => XS.goto X263.here hx rfl (pc0 := 191) (pc' := 195) rfl (hb hby at_191) (by decide) (by decide) k) ?_
            refine Rch.st (fun _ k => XS.istore X263.here hx rfl (hb hby at_195) rfl (l' := #[vI p0, vI p1, vI p2, vI p3, vI p4, vI (2 : Int32), vI c0, vI c1, vI c2, vI c3, vR a240, vI (1 : Int32)]) rfl k) ?_
            show Rch p e below T263 (mkF m 197 #[vI p0, vI p1, vI p2, vI p3, vI p4, vI (2 : Int32), vI c0, vI c1, vI c2, vI c3, vR a240, vI (1 : Int32)] []) _
            have R264 := R0.trans (CHr.ext Ex246 R0.1)
            have hk265 := Nat.le_trans (Nat.zero_le _) Ex246.1
            exact fin _ _ _ _ _ _ X263 e263 N263 Ex246 hS0 hk265 hZ hown R264 V245' (Or.inl ⟨rfl, ⟨List.cons_ne_nil _ _, by simp [q0, q1]⟩⟩)
          · skip
            obtain rfl : r263 = 0 := v263 q1
            show Rch p e below T263 (mkF m 159 #[vI p0, vI p1, vI p2, vI p3, vI p4, vI (2 : Int32), vI c0, vI c1, vI c2, vI c3, vR a240, .unset] [(.int (0 : Int32))]) _
            refine Rch.st (fun _ k => XS.ifYes X263.here hx rfl (pc0 := 159) (pc' := 194) rfl (hb hby at_159) rfl (by decide : ifCond.holds .eq (0 : Int32) = true) (by decide) (by decide) k) ?_
            refine Rch.st (fun _ k => XS.iconst X263.here hx rfl (hb hby at_194)  k) ?_
            show Rch p e below T263 (mkF m 195 #[vI p0, vI p1, vI p2, vI p3, vI p4, vI (2 : Int32), vI c0, vI c1, vI c2, vI c3, vR a240, .unset] [(.int (0 : Int32))]) _
            refine Rch.st (fun _ k => XS.istore X263.here hx rfl (hb hby at_195) rfl (l' := #[vI p0, vI p1, vI p2, vI p3, vI p4, vI (2 : Int32), vI c0, vI c1, vI c2, vI c3, vR a240, vI (0 : Int32)]) rfl k) ?_
            show Rch p e below T263 (mkF m 197 #[vI p0, vI p1, vI p2, vI p3, vI p4, vI (2 : Int32), vI c0, vI c1, vI c2, vI c3, vR a240, vI (0 : Int32)] []) _
            have R266 := R0.trans (CHr.ext Ex246 R0.1)
            have hk267 := Nat.le_trans (Nat.zero_le _) Ex246.1
            exact fin _ _ _ _ _ _ X263 e263 N263 Ex246 hS0 hk267 hZ hown R266 V245' (Or.inr ⟨rfl, fun z => q1 (z.2 c1 (by simp))⟩)
        · skip
          obtain rfl : r262 = 0 := v262 q0
          show Rch p e below T262 (mkF m 145 #[vI p0, vI p1, vI p2, vI p3, vI p4, vI (2 : Int32), vI c0, vI c1, vI c2, vI c3, vR a240, .unset] [(.int (0 : Int32))]) _
          refine Rch.st (fun _ k => XS.ifYes X262.here hx rfl (pc0 := 145) (pc' := 194) rfl (hb hby at_145) rfl (by decide : ifCond.holds .eq (0 : Int32) = true) (by decide) (by decide) k) ?_
          refine Rch.st (fun _ k => XS.iconst X262.here hx rfl (hb hby at_194)  k) ?_
          show Rch p e below T262 (mkF m 195 #[vI p0, vI p1, vI p2, vI p3, vI p4, vI (2 : Int32), vI c0, vI c1, vI c2, vI c3, vR a240, .unset] [(.int (0 : Int32))]) _
          refine Rch.st (fun _ k => XS.istore X262.here hx rfl (hb hby at_195) rfl (l' := #[vI p0, vI p1, vI p2, vI p3, vI p4, vI (2 : Int32), vI c0, vI c1, vI c2, vI c3, vR a240, vI (0 : Int32)]) rfl k) ?_
          show Rch p e below T262 (mkF m 197 #[vI p0, vI p1, vI p2, vI p3, vI p4, vI (2 : Int32), vI c0, vI c1, vI c2, vI c3, vR a240, vI (0 : Int32)] []) _
          have R268 := R0.trans (CHr.ext Ex246 R0.1)
          have hk269 := Nat.le_trans (Nat.zero_le _) Ex246.1
          exact fin _ _ _ _ _ _ X262 e262 N262 Ex246 hS0 hk269 hZ hown R268 V245' (Or.inr ⟨rfl, fun z => q0 (z.2 c0 (by simp))⟩)
      · skip
        refine Rch.st (fun _ k => XS.icmpYes X0.here hx rfl (pc0 := 60) (pc' := 81) rfl (hb hby at_60) rfl (feq hn2).2 (by decide) (by decide) k) ?_
        refine Rch.st (fun _ k => XS.iload X0.here hx rfl (hb hby at_81) rfl k) ?_
        show Rch p e below s₁ (mkF m 83 #[vI p0, vI p1, vI p2, vI p3, vI p4, vI ln, vI c0, vI c1, vI c2, vI c3, .unset, .unset] [(.int ln)]) _
        refine Rch.st (fun _ k => XS.iconst X0.here hx rfl (hb hby at_83)  k) ?_
        show Rch p e below s₁ (mkF m 84 #[vI p0, vI p1, vI p2, vI p3, vI p4, vI ln, vI c0, vI c1, vI c2, vI c3, .unset, .unset] [(.int (3 : Int32)), (.int ln)]) _
        by_cases hn3 : ln = (3 : Int32)
        · skip
          refine Rch.st (fun _ k => XS.icmpNo X0.here hx rfl (hb hby at_84) rfl (teq hn3).2 k) ?_
          show Rch p e below s₁ (mkF m 87 #[vI p0, vI p1, vI p2, vI p3, vI p4, vI ln, vI c0, vI c1, vI c2, vI c3, .unset, .unset] []) _
          subst hn3
          show Rch p e below s₁ (mkF m 87 #[vI p0, vI p1, vI p2, vI p3, vI p4, vI (3 : Int32), vI c0, vI c1, vI c2, vI c3, .unset, .unset] []) _
          refine Rch.st (fun _ k => XS.iconst X0.here hx rfl (hb hby at_87)  k) ?_
          show Rch p e below s₁ (mkF m 88 #[vI p0, vI p1, vI p2, vI p3, vI p4, vI (3 : Int32), vI c0, vI c1, vI c2, vI c3, .unset, .unset] [(.int (3 : Int32))]) _
          obtain ⟨T270, h270, k270, X270, e270, E270, A270, st270⟩ := newP X0 hx hZ (wq hw 0 rfl) e0 (g := (mkF m 88 #[vI p0, vI p1, vI p2, vI p3, vI p4, vI (3 : Int32), vI c0, vI c1, vI c2, vI c3, .unset, .unset] [(.int (3 : Int32))])) rfl (hb hby at_88) rfl (by decide : ¬ ((3 : Int32) < (0 : Int32))) (cap := 3) (by decide : ((3 : Int32)).toNatClampNeg ≤ 3) (by decide) (by decide) (by decide)
          obtain ⟨a270, g270⟩ : ∃ z, z = h0.size := ⟨_, rfl⟩
          rw [← g270] at A270 st270
          have Ex271 : Ext h0 h270 := E270
          have le272 : h0.size ≤ a270 := Nat.le_of_eq g270.symm
          refine Rch.st st270 ?_
          show Rch p e below T270 (mkF m 90 #[vI p0, vI p1, vI p2, vI p3, vI p4, vI (3 : Int32), vI c0, vI c1, vI c2, vI c3, .unset, .unset] [(.ref a270)]) _
          have V270 : Arv Z h270 a270 k270 .char (3 : Int32) [(.int (0 : Int32)), (.int (0 : Int32)), (.int (0 : Int32))] (.int (0 : Int32)) := (Arv.new A270 (by decide : ¬ ((3 : Int32) < (0 : Int32)))).pad (pad_rep [] (.int (0 : Int32)) 3)
          refine Rch.st (fun _ k => XS.dup X270.here hx rfl (hb hby at_90) rfl rfl k) ?_
          refine Rch.st (fun _ k => XS.iconst X270.here hx rfl (hb hby at_91)  k) ?_
          show Rch p e below T270 (mkF m 92 #[vI p0, vI p1, vI p2, vI p3, vI p4, vI (3 : Int32), vI c0, vI c1, vI c2, vI c3, .unset, .unset] [(.int (0 : Int32)), (.ref a270), (.ref a270)]) _
          refine Rch.st (fun _ k => XS.iload X270.here hx rfl (hb hby at_92) rfl k) ?_
          show Rch p e below T270 (mkF m 94 #[vI p0, vI p1, vI p2, vI p3, vI p4, vI (3 : Int32), vI c0, vI c1, vI c2, vI c3, .unset, .unset] [(.int c0), (.int (0 : Int32)), (.ref a270), (.ref a270)]) _
          obtain ⟨T273, h273, L273, sl273, X273, e273, W273, V273, N273, st273⟩ := stCv X270 hx hZ e270 V270 N0 (Nat.le_trans Z0 le272) (j := (0 : Int32)) ⟨by decide, by decide⟩ 0 rfl (Nat.le_of_ble_eq_true rfl) (g := (mkF m 94 #[vI p0, vI p1, vI p2, vI p3, vI p4, vI (3 : Int32), vI c0, vI c1, vI c2, vI c3, .unset, .unset] [(.int c0), (.int (0 : Int32)), (.ref a270), (.ref a270)])) rfl rfl (hb hby at_94)
          have V273_ := V273
          rw [k0.2] at V273_
          have V273' : Arv Z h273 a270 k270 .char (3 : Int32) [(.int c0), (.int (0 : Int32)), (.int (0 : Int32))] (.int (0 : Int32)) := V273_
          have Ex274 : Ext h0 h273 := extWr Ex271 W273 le272
          refine Rch.st st273 ?_
          show Rch p e below T273 (mkF m 95 #[vI p0, vI p1, vI p2, vI p3, vI p4, vI (3 : Int32), vI c0, vI c1, vI c2, vI c3, .unset, .unset] [(.ref a270)]) _
          refine Rch.st (fun _ k => XS.dup X273.here hx rfl (hb hby at_95) rfl rfl k) ?_
          refine Rch.st (fun _ k => XS.iconst X273.here hx rfl (hb hby at_96)  k) ?_
          show Rch p e below T273 (mkF m 97 #[vI p0, vI p1, vI p2, vI p3, vI p4, vI (3 : Int32), vI c0, vI c1, vI c2, vI c3, .unset, .unset] [(.int (1 : Int32)), (.ref a270), (.ref a270)]) _
          refine Rch.st (fun _ k => XS.iload X273.here hx rfl (hb hby at_97) rfl k) ?_
          show Rch p e below T273 (mkF m 99 #[vI p0, vI p1, vI p2, vI p3, vI p4, vI (3 : Int32), vI c0, vI c1, vI c2, vI c3, .unset, .unset] [(.int c1), (.int (1 : Int32)), (.ref a270), (.ref a270)]) _
          obtain ⟨T275, h275, L275, sl275, X275, e275, W275, V275, N275, st275⟩ := stCv X273 hx hZ e273 V273' N273 (Nat.le_trans Z0 le272) (j := (1 : Int32)) ⟨by decide, by decide⟩ 1 rfl (Nat.le_of_ble_eq_true rfl) (g := (mkF m 99 #[vI p0, vI p1, vI p2, vI p3, vI p4, vI (3 : Int32), vI c0, vI c1, vI c2, vI c3, .unset, .unset] [(.int c1), (.int (1 : Int32)), (.ref a270), (.ref a270)])) rfl rfl (hb hby at_99)
          have V275_ := V275
          rw [k1.2] at V275_
          have V275' : Arv Z h275 a270 k270 .char (3 : Int32) [(.int c0), (.int c1), (.int (0 : Int32))] (.int (0 : Int32)) := V275_
          have Ex276 : Ext h0 h275 := extWr Ex274 W275 le272
          refine Rch.st st275 ?_
          show Rch p e below T275 (mkF m 100 #[vI p0, vI p1, vI p2, vI p3, vI p4, vI (3 : Int32), vI c0, vI c1, vI c2, vI c3, .unset, .unset] [(.ref a270)]) _
          refine Rch.st (fun _ k => XS.dup X275.here hx rfl (hb hby at_100) rfl rfl k) ?_
          refine Rch.st (fun _ k => XS.iconst X275.here hx rfl (hb hby at_101)  k) ?_
          show Rch p e below T275 (mkF m 102 #[vI p0, vI p1, vI p2, vI p3, vI p4, vI (3 : Int32), vI c0, vI c1, vI c2, vI c3, .unset, .unset] [(.int (2 : Int32)), (.ref a270), (.ref a270)]) _
          refine Rch.st (fun _ k => XS.iload X275.here hx rfl (hb hby at_102) rfl k) ?_
          show Rch p e below T275 (mkF m 104 #[vI p0, vI p1, vI p2, vI p3, vI p4, vI (3 : Int32), vI c0, vI c1, vI c2, vI c3, .unset, .unset] [(.int c2), (.int (2 : Int32)), (.ref a270), (.ref a270)]) _
          obtain ⟨T277, h277, L277, sl277, X277, e277, W277, V277, N277, st277⟩ := stCv X275 hx hZ e275 V275' N275 (Nat.le_trans Z0 le272) (j := (2 : Int32)) ⟨by decide, by decide⟩ 2 rfl (Nat.le_of_ble_eq_true rfl) (g := (mkF m 104 #[vI p0, vI p1, vI p2, vI p3, vI p4, vI (3 : Int32), vI c0, vI c1, vI c2, vI c3, .unset, .unset] [(.int c2), (.int (2 : Int32)), (.ref a270), (.ref a270)])) rfl rfl (hb hby at_104)
          have V277_ := V277
          rw [k2.2] at V277_
          have V277' : Arv Z h277 a270 k270 .char (3 : Int32) [(.int c0), (.int c1), (.int c2)] (.int (0 : Int32)) := V277_
          have Ex278 : Ext h0 h277 := extWr Ex276 W277 le272
          refine Rch.st st277 ?_
          show Rch p e below T277 (mkF m 105 #[vI p0, vI p1, vI p2, vI p3, vI p4, vI (3 : Int32), vI c0, vI c1, vI c2, vI c3, .unset, .unset] [(.ref a270)]) _
          refine Rch.st (fun _ k => XS.astore X277.here hx rfl (hb hby at_105) rfl rfl (l' := #[vI p0, vI p1, vI p2, vI p3, vI p4, vI (3 : Int32), vI c0, vI c1, vI c2, vI c3, vR a270, .unset]) rfl k) ?_
          refine Rch.st (fun _ k => XS.goto X277.here hx rfl (pc0 := 107) (pc' := 135) rfl (hb hby at_107) (by decide) (by decide) k) ?_
          show Rch p e below T277 (mkF m 135 #[vI p0, vI p1, vI p2, vI p3, vI p4, vI (3 : Int32), vI c0, vI c1, vI c2, vI c3, vR a270, .unset] []) _
          have fin : ∀ (T279 : State) (lc279 : List Loc) (h279 : Heap) (vm279 : Vm) (k0_279 : Nat) (ex : Int32), Stand p l e room_1 (s.setVm vm279) m #[(.int p0), (.int p1), (.int p2), (.int p3), (.int p4)] below meth c T279 lc279 1 3 → T279.heap = h279 → Fr n0 lc279 → Ext h0 h279 → s.Since vm279 k0_279 → k0_279 ≤ h279.size → Z.Warmed39 (s.setVm vm279).vm → (s.setVm vm279).vm.findClass "com/example/permitd/permitd/http/HeadersIsTokenPinLaw" = some m.cls → CHr Z EL s.vm s.heap vm279 h279 → (Arv Z h279 a270 k270 .char (3 : Int32) [(.int c0), (.int c1), (.int c2)] (.int (0 : Int32))) → ((ex = 1 ∧ (¬ ([c0, c1, c2] : List Int32) = [] ∧ ∀ c ∈ ([c0, c1, c2] : List Int32), tokB c = true)) ∨ (ex = 0 ∧ ¬ (¬ ([c0, c1, c2] : List Int32) = [] ∧ ∀ c ∈ ([c0, c1, c2] : List Int32), tokB c = true))) → Rch p e below T279 (mkF m 197 #[vI p0, vI p1, vI p2, vI p3, vI p4, vI (3 : Int32), vI c0, vI c1, vI c2, vI c3, vR a270, vI ex] []) (fun U o => ∃ v L, o = .returned v ∧ Q_law Z p0 p1 p2 p3 p4 fm h0 n0 v U.heap L ∧ CHr Z EL s.vm s.heap U.vm U.heap ∧ ReturnedEndW s o U L 24 2176) := by
            intro T279 lc279 h279 vm279 k0_279 ex X279 e279 N279 Ex279 hS279 hk279 hZ279 hown279 R279 MV hex
            show Rch p e below T279 (mkF m 197 #[vI p0, vI p1, vI p2, vI p3, vI p4, vI (3 : Int32), vI c0, vI c1, vI c2, vI c3, vR a270, vI ex] []) _
            obtain ⟨T280, h280, X280, e280, E280, A280, D280, -, st280⟩ := newO X279 hx hZ279 hown279 (wq hw 1 rfl) (wq hw 2 rfl) (wq hw 3 rfl) e279 (g := (mkF m 197 #[vI p0, vI p1, vI p2, vI p3, vI p4, vI (3 : Int32), vI c0, vI c1, vI c2, vI c3, vR a270, vI ex] [])) rfl (hb hby at_197) (by decide) (by decide)
            obtain ⟨a280, g280⟩ : ∃ z, z = h279.size := ⟨_, rfl⟩
            rw [← g280] at A280 D280 st280
            have Ex281 : Ext h0 h280 := Ex279.tr E280
            have Ex282 : Ext h279 h280 := E280
            have le283 : h0.size ≤ a280 := Nat.le_trans Ex279.1 (Nat.le_of_eq g280.symm)
            have le284 : h279.size ≤ a280 := Nat.le_of_eq g280.symm
            refine Rch.st st280 ?_
            show Rch p e below T280 (mkF m 200 #[vI p0, vI p1, vI p2, vI p3, vI p4, vI (3 : Int32), vI c0, vI c1, vI c2, vI c3, vR a270, vI ex] [(.ref a280)]) _
            refine Rch.st (fun _ k => XS.dup X280.here hx rfl (hb hby at_200) rfl rfl k) ?_
            refine Rch.st (fun _ k => XS.aload X280.here hx rfl (hb hby at_201) rfl rfl k) ?_
            show Rch p e below T280 (mkF m 203 #[vI p0, vI p1, vI p2, vI p3, vI p4, vI (3 : Int32), vI c0, vI c1, vI c2, vI c3, vR a270, vI ex] [(.ref a270), (.ref a280), (.ref a280)]) _
            obtain ⟨_, _, ⟨T285, L285, k285, n285⟩, -, X285, ⟨Lc285, hQ285, l285, y285, z285⟩, st285⟩ := X280.specialBack hx (y := (⟨"java/lang/String", "<init>", "([C)V"⟩ : MethodName)) rfl hown279 (mvT hZ279 (wq hw 4 rfl)) (mvT hZ279 (wq hw 5 rfl)) (mvT hZ279 (wq hw 6 rfl)) (by decide) (newS (W := 1) hZ279 hw (cs := [c0, c1, c2]) (Nat.le_trans Z0 le283) (Nat.le_trans Z0 Ex281.1) A280 ((D280 (Or.inr (wq hw 16 rfl)) (ty := (.array .byte)) (by decide)).ext Ext.rf) ((D280 (Or.inr (wq hw 17 rfl)) (ty := .byte) (by decide)).ext Ext.rf) (MV.ext Ex282) (B.ext Ex281) (c16_cons k0.1 (c16_cons k1.1 (c16_cons k2.1 c16_nil))) (Nat.le_of_ble_eq_true rfl) (Nat.le_of_ble_eq_true rfl) (by decide) (by decide)) (g := (mkF m 203 #[vI p0, vI p1, vI p2, vI p3, vI p4, vI (3 : Int32), vI c0, vI c1, vI c2, vI c3, vR a270, vI ex] [(.ref a270), (.ref a280), (.ref a280)])) rfl (by rw [hml]; rfl) (Steps.refl _) (a := a280) (argsL := [(.ref a270)]) (rest := [(.ref a280)]) (lenOf pd_18 rfl) rfl (by show 2 * 0 + _ ≤ _; exact Nat.le_of_eq rfl) (hb hby at_203) (fun _ _ => ⟨rfl, e280, (by decide : 2 + 2 ≤ _), (by decide : 7 + 12 ≤ _)⟩)
            dsimp only [Pt.U, Pt.locs, Pt.cells, Pt.slots] at X285 l285 y285 z285 st285 hQ285
            subst l285 y285 z285
            obtain ⟨rfl, Nq285, K285, Q285⟩ := hQ285
            have N285 := Fr.app N279 Nq285
            have Ex286 : Ext h0 T285.heap := extKeep1 Ex281 K285 le283
            have Ex287 : Ext h279 T285.heap := extKeep1 Ex282 K285 le284
            refine Rch.go st285 ?_
            show Rch p e below T285 (mkF m 206 #[vI p0, vI p1, vI p2, vI p3, vI p4, vI (3 : Int32), vI c0, vI c1, vI c2, vI c3, vR a270, vI ex] [(.ref a280)]) _
            have R288 := R279.trans (CHr.ext Ex287 R279.1)
            have hk289 := Nat.le_trans hk279 Ex287.1
            obtain ⟨_, _, ⟨T290, L290, k290, n290⟩, -, X290_, hS290_, hg290_, ⟨Lc290, hQ290, l290, y290, z290, CR290⟩, st290⟩ := callSS X285 hx (y := (⟨"com/example/permitd/permitd/http/Headers", "isToken", "(Ljava/lang/String;)Z"⟩ : MethodName)) hown279 (mvT hZ279 (wq hw 22 rfl)) (mvT hZ279 (wq hw 23 rfl)) (mvT hZ279 (wq hw 24 rfl)) (mvT hZ279 (wq hw 25 rfl)) (by decide) (backOfSH (W := 0) (rm_isTok l Z a0 hw [] a280 ([c0, c1, c2] : List Int32) fm T285.heap n0 (Nat.le_trans Z0 Ex286.1) Q285 (B.ext Ex286) (Nat.le_of_ble_eq_true rfl)) hZ279 (wq hw 25 rfl) (wq hw 24 rfl) (by decide) (by decide) hEL R288.1) (g := (mkF m 206 #[vI p0, vI p1, vI p2, vI p3, vI p4, vI (3 : Int32), vI c0, vI c1, vI c2, vI c3, vR a270, vI ex] [(.ref a280)])) rfl (by rw [hml]; rfl) (argsL := [(.ref a280)]) (rest := []) (lenOf pd_19 rfl) rfl (by show 2 * 0 + _ ≤ _; exact Nat.le_of_eq rfl) (hb hby at_206) (fun _ _ => ⟨rfl, rfl, (by decide : 4 + 8 ≤ _), (by decide : 19 + 256 ≤ _)⟩)
            dsimp only [Pt.U, Pt.locs, Pt.cells, Pt.slots] at X290_ hS290_ hg290_ l290 y290 z290 st290 hQ290 CR290
            subst l290 y290 z290
            obtain ⟨X290, hS290, hZ290, hown290⟩ := rebS hS279 hk289 X290_ hS290_ hg290_ hZ279 hown279
            obtain ⟨r290, rfl, Nq290, E290, u290, v290⟩ := hQ290
            have N290 := Fr.app N285 Nq290
            have R290 := R288.trans CR290
            have Ex291 : Ext h0 T290.heap := Ex286.tr E290
            have Ex292 : Ext h279 T290.heap := Ex287.tr E290
            have Ex293 : Ext T285.heap T290.heap := E290
            refine Rch.go st290 ?_
            show Rch p e below T290 (mkF m 209 #[vI p0, vI p1, vI p2, vI p3, vI p4, vI (3 : Int32), vI c0, vI c1, vI c2, vI c3, vR a270, vI ex] [(.int r290)]) _
            obtain ⟨rfl, hq⟩ | ⟨rfl, hq⟩ := hex
            · skip
              obtain rfl : r290 = 1 := u290 hq
              show Rch p e below T290 (mkF m 209 #[vI p0, vI p1, vI p2, vI p3, vI p4, vI (3 : Int32), vI c0, vI c1, vI c2, vI c3, vR a270, vI (1 : Int32)] [(.int (1 : Int32))]) _
              refine Rch.st (fun _ k => XS.iload X290.here hx rfl (hb hby at_209) rfl k) ?_
              refine Rch.st (fun _ k => XS.icmpNo X290.here hx rfl (hb hby at_211) rfl (by decide : if_icmp.holds .ne (1 : Int32) (1 : Int32) = false) k) ?_
              show Rch p e below T290 (mkF m 214 #[vI p0, vI p1, vI p2, vI p3, vI p4, vI (3 : Int32), vI c0, vI c1, vI c2, vI c3, vR a270, vI (1 : Int32)] []) _
              refine Rch.st (fun _ k => XS.iconst X290.here hx rfl (hb hby at_214)  k) ?_
              refine Rch.st (fun _ k => XS.goto X290.here hx rfl (pc0 := 215) (pc' := 219) rfl (hb hby at_215) (by decide) (by decide) k) ?_
              show Rch p e below T290 (mkF m 219 #[vI p0, vI p1, vI p2, vI p3, vI p4, vI (3 : Int32), vI c0, vI c1, vI c2, vI c3, vR a270, vI (1 : Int32)] [(.int (1 : Int32))]) _
              exact Rch.finW (Q := Q_law Z p0 p1 p2 p3 p4 fm h0 n0) X290 hZ290 hEL hS290 (Nat.le_refl _) rfl R290 (v := some (.int (1 : Int32))) (fun h => by rw [Bd.returns] at h; cases h) (BodyLoose.notSynchronized Bd) (fun fs hr => retN X290 hx (t := .boolean) Bd.returns (by simp) (hb hby at_219) hr) ⟨rfl, N290⟩ (by decide) (by decide)
            · skip
              obtain rfl : r290 = 0 := v290 hq
              show Rch p e below T290 (mkF m 209 #[vI p0, vI p1, vI p2, vI p3, vI p4, vI (3 : Int32), vI c0, vI c1, vI c2, vI c3, vR a270, vI (0 : Int32)] [(.int (0 : Int32))]) _
              refine Rch.st (fun _ k => XS.iload X290.here hx rfl (hb hby at_209) rfl k) ?_
              refine Rch.st (fun _ k => XS.icmpNo X290.here hx rfl (hb hby at_211) rfl (by decide : if_icmp.holds .ne (0 : Int32) (0 : Int32) = false) k) ?_
              show Rch p e below T290 (mkF m 214 #[vI p0, vI p1, vI p2, vI p3, vI p4, vI (3 : Int32), vI c0, vI c1, vI c2, vI c3, vR a270, vI (0 : Int32)] []) _
              refine Rch.st (fun _ k => XS.iconst X290.here hx rfl (hb hby at_214)  k) ?_
              refine Rch.st (fun _ k => XS.goto X290.here hx rfl (pc0 := 215) (pc' := 219) rfl (hb hby at_215) (by decide) (by decide) k) ?_
              show Rch p e below T290 (mkF m 219 #[vI p0, vI p1, vI p2, vI p3, vI p4, vI (3 : Int32), vI c0, vI c1, vI c2, vI c3, vR a270, vI (0 : Int32)] [(.int (1 : Int32))]) _
              exact Rch.finW (Q := Q_law Z p0 p1 p2 p3 p4 fm h0 n0) X290 hZ290 hEL hS290 (Nat.le_refl _) rfl R290 (v := some (.int (1 : Int32))) (fun h => by rw [Bd.returns] at h; cases h) (BodyLoose.notSynchronized Bd) (fun fs hr => retN X290 hx (t := .boolean) Bd.returns (by simp) (hb hby at_219) hr) ⟨rfl, N290⟩ (by decide) (by decide)
          refine Rch.st (fun _ k => XS.iload X277.here hx rfl (hb hby at_135) rfl k) ?_
          refine Rch.st (fun _ k => XS.ifNo X277.here hx rfl (hb hby at_137) rfl (by decide : ifCond.holds .le (3 : Int32) = false) k) ?_
          show Rch p e below T277 (mkF m 140 #[vI p0, vI p1, vI p2, vI p3, vI p4, vI (3 : Int32), vI c0, vI c1, vI c2, vI c3, vR a270, .unset] []) _
          refine Rch.st (fun _ k => XS.iload X277.here hx rfl (hb hby at_140) rfl k) ?_
          show Rch p e below T277 (mkF m 142 #[vI p0, vI p1, vI p2, vI p3, vI p4, vI (3 : Int32), vI c0, vI c1, vI c2, vI c3, vR a270, .unset] [(.int c0)]) _
          obtain ⟨_, _, ⟨T294, L294, k294, n294⟩, -, X294, ⟨Lc294, hQ294, l294, y294, z294⟩, st294⟩ := Jvm.LawKit.callS X277 hx (y := (⟨"com/example/permitd/permitd/http/HeadersIsTokenPinLaw", "tok", "(C)Z"⟩ : MethodName)) hown (mvT hZ (wq hw 31 rfl)) (mvT hZ (wq hw 32 rfl)) (mvT hZ (wq hw 33 rfl)) (mvT hZ (wq hw 34 rfl)) (by decide) (backOf (W := 0) (rm_tok l Z a0 hw [] c0 h277 n0 (Nat.le_trans Z0 Ex278.1) k0.1.1) hZ (wq hw 34 rfl) (wq hw 33 rfl) (by decide) (by decide)) (g := (mkF m 142 #[vI p0, vI p1, vI p2, vI p3, vI p4, vI (3 : Int32), vI c0, vI c1, vI c2, vI c3, vR a270, .unset] [(.int c0)])) rfl (by rw [hml]; rfl) (argsL := [(.int c0)]) (rest := []) (lenOf pd_20 rfl) rfl (by show 2 * 0 + _ ≤ _; exact Nat.le_of_eq rfl) (hb hby at_142) (fun _ _ => ⟨rfl, e277, (by decide : 1 + 0 ≤ _), (by decide : 3 + 0 ≤ _)⟩)
          dsimp only [Pt.U, Pt.locs, Pt.cells, Pt.slots] at X294 l294 y294 z294 st294 hQ294
          subst l294 y294 z294
          obtain ⟨r294, rfl, Nq294, e294, u294, v294⟩ := hQ294
          have N294 := Fr.app N277 Nq294
          refine Rch.st st294 ?_
          show Rch p e below T294 (mkF m 145 #[vI p0, vI p1, vI p2, vI p3, vI p4, vI (3 : Int32), vI c0, vI c1, vI c2, vI c3, vR a270, .unset] [(.int r294)]) _
          by_cases q0 : tokB c0 = true
          · skip
            obtain rfl : r294 = 1 := u294 q0
            show Rch p e below T294 (mkF m 145 #[vI p0, vI p1, vI p2, vI p3, vI p4, vI (3 : Int32), vI c0, vI c1, vI c2, vI c3, vR a270, .unset] [(.int (1 : Int32))]) _
            refine Rch.st (fun _ k => XS.ifNo X294.here hx rfl (hb hby at_145) rfl (by decide : ifCond.holds .eq (1 : Int32) = false) k) ?_
            refine Rch.st (fun _ k => XS.iload X294.here hx rfl (hb hby at_148) rfl k) ?_
            show Rch p e below T294 (mkF m 150 #[vI p0, vI p1, vI p2, vI p3, vI p4, vI (3 : Int32), vI c0, vI c1, vI c2, vI c3, vR a270, .unset] [(.int (3 : Int32))]) _
            refine Rch.st (fun _ k => XS.iconst X294.here hx rfl (hb hby at_150)  k) ?_
            refine Rch.st (fun _ k => XS.icmpNo X294.here hx rfl (hb hby at_151) rfl (by decide : if_icmp.holds .lt (3 : Int32) (2 : Int32) = false) k) ?_
            show Rch p e below T294 (mkF m 154 #[vI p0, vI p1, vI p2, vI p3, vI p4, vI (3 : Int32), vI c0, vI c1, vI c2, vI c3, vR a270, .unset] []) _
            refine Rch.st (fun _ k => XS.iload X294.here hx rfl (hb hby at_154) rfl k) ?_
            show Rch p e below T294 (mkF m 156 #[vI p0, vI p1, vI p2, vI p3, vI p4, vI (3 : Int32), vI c0, vI c1, vI c2, vI c3, vR a270, .unset] [(.int c1)]) _
            obtain ⟨_, _, ⟨T295, L295, k295, n295⟩, -, X295, ⟨Lc295, hQ295, l295, y295, z295⟩, st295⟩ := Jvm.LawKit.callS X294 hx (y := (⟨"com/example/permitd/permitd/http/HeadersIsTokenPinLaw", "tok", "(C)Z"⟩ : MethodName)) hown (mvT hZ (wq hw 31 rfl)) (mvT hZ (wq hw 32 rfl)) (mvT hZ (wq hw 33 rfl)) (mvT hZ (wq hw 34 rfl)) (by decide) (backOf (W := 0) (rm_tok l Z a0 hw [] c1 h277 n0 (Nat.le_trans Z0 Ex278.1) k1.1.1) hZ (wq hw 34 rfl) (wq hw 33 rfl) (by decide) (by decide)) (g := (mkF m 156 #[vI p0, vI p1, vI p2, vI p3, vI p4, vI (3 : Int32), vI c0, vI c1, vI c2, vI c3, vR a270, .unset] [(.int c1)])) rfl (by rw [hml]; rfl) (argsL := [(.int c1)]) (rest := []) (lenOf pd_20 rfl) rfl (by show 2 * 0 + _ ≤ _; exact Nat.le_of_eq rfl) (hb hby at_156) (fun _ _ => ⟨rfl, e294, (by decide : 1 + 0 ≤ _), (by decide : 3 + 0 ≤ _)⟩)
            dsimp only [Pt.U, Pt.locs, Pt.cells, Pt.slots] at X295 l295 y295 z295 st295 hQ295
            subst l295 y295 z295
            obtain ⟨r295, rfl, Nq295, e295, u295, v295⟩ := hQ295
            have N295 := Fr.app N294 Nq295
            refine Rch.st st295 ?_
            show Rch p e below T295 (mkF m 159 #[vI p0, vI p1, vI p2, vI p3, vI p4, vI (3 : Int32), vI c0, vI c1, vI c2, vI c3, vR a270, .unset] [(.int r295)]) _
            by_cases q1 : tokB c1 = true
            · skip
              obtain rfl : r295 = 1 := u295 q1
              show Rch p e below T295 (mkF m 159 #[vI p0, vI p1, vI p2, vI p3, vI p4, vI (3 : Int32), vI c0, vI c1, vI c2, vI c3, vR a270, .unset] [(.int (1 : Int32))]) _
              refine Rch.st (fun _ k => XS.ifNo X295.here hx rfl (hb hby at_159) rfl (by decide : ifCond.holds .eq (1 : Int32) = false) k) ?_
              refine Rch.st (fun _ k => XS.iload X295.here hx rfl (hb hby at_162) rfl k) ?_
              show Rch p e below T295 (mkF m 164 #[vI p0, vI p1, vI p2, vI p3, vI p4, vI (3 : Int32), vI c0, vI c1, vI c2, vI c3, vR a270, .unset] [(.int (3 : Int32))]) _
              refine Rch.st (fun _ k => XS.iconst X295.here hx rfl (hb hby at_164)  k) ?_
              refine Rch.st (fun _ k => XS.icmpNo X295.here hx rfl (hb hby at_165) rfl (by decide : if_icmp.holds .lt (3 : Int32) (3 : Int32) = false) k) ?_
              show Rch p e below T295 (mkF m 168 #[vI p0, vI p1, vI p2, vI p3, vI p4, vI (3 : Int32), vI c0, vI c1, vI c2, vI c3, vR a270, .unset] []) _
              refine Rch.st (fun _ k => XS.iload X295.here hx rfl (hb hby at_168) rfl k) ?_
              show Rch p e below T295 (mkF m 170 #[vI p0, vI p1, vI p2, vI p3, vI p4, vI (3 : Int32), vI c0, vI c1, vI c2, vI c3, vR a270, .unset] [(.int c2)]) _
              obtain ⟨_, _, ⟨T296, L296, k296, n296⟩, -, X296, ⟨Lc296, hQ296, l296, y296, z296⟩, st296⟩ := Jvm.LawKit.callS X295 hx (y := (⟨"com/example/permitd/permitd/http/HeadersIsTokenPinLaw", "tok", "(C)Z"⟩ : MethodName)) hown (mvT hZ (wq hw 31 rfl)) (mvT hZ (wq hw 32 rfl)) (mvT hZ (wq hw 33 rfl)) (mvT hZ (wq hw 34 rfl)) (by decide) (backOf (W := 0) (rm_tok l Z a0 hw [] c2 h277 n0 (Nat.le_trans Z0 Ex278.1) k2.1.1) hZ (wq hw 34 rfl) (wq hw 33 rfl) (by decide) (by decide)) (g := (mkF m 170 #[vI p0, vI p1, vI p2, vI p3, vI p4, vI (3 : Int32), vI c0, vI c1, vI c2, vI c3, vR a270, .unset] [(.int c2)])) rfl (by rw [hml]; rfl) (argsL := [(.int c2)]) (rest := []) (lenOf pd_20 rfl) rfl (by show 2 * 0 + _ ≤ _; exact Nat.le_of_eq rfl) (hb hby at_170) (fun _ _ => ⟨rfl, e295, (by decide : 1 + 0 ≤ _), (by decide : 3 + 0 ≤ _)⟩)
              dsimp only [Pt.U, Pt.locs, Pt.cells, Pt.slots] at X296 l296 y296 z296 st296 hQ296
              subst l296 y296 z296
              obtain ⟨r296, rfl, Nq296, e296, u296, v296⟩ := hQ296
              have N296 := Fr.app N295 Nq296
              refine Rch.st st296 ?_
              show Rch p e below T296 (mkF m 173 #[vI p0, vI p1, vI p2, vI p3, vI p4, vI (3 : Int32), vI c0, vI c1, vI c2, vI c3, vR a270, .unset] [(.int r296)]) _
              by_cases q2 : tokB c2 = true
              · skip
                obtain rfl : r296 = 1 := u296 q2
                show Rch p e below T296 (mkF m 173 #[vI p0, vI p1, vI p2, vI p3, vI p4, vI (3 : Int32), vI c0, vI c1, vI c2, vI c3, vR a270, .unset] [(.int (1 : Int32))]) _
                refine Rch.st (fun _ k => XS.ifNo X296.here hx rfl (hb hby at_173) rfl (by decide : ifCond.holds .eq (1 : Int32) = false) k) ?_
                refine Rch.st (fun _ k => XS.iload X296.here hx rfl (hb hby at_176) rfl k) ?_
                show Rch p e below T296 (mkF m 178 #[vI p0, vI p1, vI p2, vI p3, vI p4, vI (3 : Int32), vI c0, vI c1, vI c2, vI c3, vR a270, .unset] [(.int (3 : Int32))]) _
                refine Rch.st (fun _ k => XS.iconst X296.here hx rfl (hb hby at_178)  k) ?_
                refine Rch.st (fun _ k => XS.icmpYes X296.here hx rfl (pc0 := 179) (pc' := 190) rfl (hb hby at_179) rfl (by decide : if_icmp.holds .lt (3 : Int32) (4 : Int32) = true) (by decide) (by decide) k) ?_
                show Rch p e below T296 (mkF m 190 #[vI p0, vI p1, vI p2, vI p3, vI p4, vI (3 : Int32), vI c0, vI c1, vI c2, vI c3, vR a270, .unset] []) _
                refine Rch.st (fun _ k => XS.iconst X296.here hx rfl (hb hby at_190)  k) ?_
                refine Rch.st (fun _ k => XS.goto X296.here hx rfl (pc0 := 191) (pc' := 195) rfl (hb hby at_191) (by decide) (by decide) k) ?_
                show Rch p e below T296 (mkF m 195 #[vI p0, vI p1, vI p2, vI p3, vI p4, vI (3 : Int32), vI c0, vI c1, vI c2, vI c3, vR a270, .unset] [(.int (1 : Int32))]) _
                refine Rch.st (fun _ k => XS.istore X296.here hx rfl (hb hby at_195) rfl (l' := #[vI p0, vI p1, vI p2, vI p3, vI p4, vI (3 : Int32), vI c0, vI c1, vI c2, vI c3, vR a270, vI (1 : Int32)]) rfl k) ?_
                show Rch p e below T296 (mkF m 197 #[vI p0, vI p1, vI p2, vI p3, vI p4, vI (3 : Int32), vI c0, vI c1, vI c2, vI c3, vR a270, vI (1 : Int32)] []) _
                have R297 := R0.trans (CHr.ext Ex278 R0.1)
                have hk298 := Nat.le_trans (Nat.zero_le _) Ex278.1
                exact fin _ _ _ _ _ _ X296 e296 N296 Ex278 hS0 hk298 hZ hown R297 V277' (Or.inl ⟨rfl, ⟨List.cons_ne_nil _ _, by simp [q0, q1, q2]⟩⟩)
              · skip
                obtain rfl : r296 = 0 := v296 q2
                show Rch p e below T296 (mkF m 173 #[vI p0, vI p1, vI p2, vI p3, vI p4, vI (3 : Int32), vI c0, vI c1, vI c2, vI c3, vR a270, .unset] [(.int (0 : Int32))]) _
                refine Rch.st (fun _ k => XS.ifYes X296.here hx rfl (pc0 := 173) (pc' := 194) rfl (hb hby at_173) rfl (by decide : ifCond.holds .eq (0 : Int32) = true) (by decide) (by decide) k) ?_
                refine Rch.st (fun _ k => XS.iconst X296.here hx rfl (hb hby at_194)  k) ?_
                show Rch p e below T296 (mkF m 195 #[vI p0, vI p1, vI p2, vI p3, vI p4, vI (3 : Int32), vI c0, vI c1, vI c2, vI c3, vR a270, .unset] [(.int (0 : Int32))]) _
                refine Rch.st (fun _ k => XS.istore X296.here hx rfl (hb hby at_195) rfl (l' := #[vI p0, vI p1, vI p2, vI p3, vI p4, vI (3 : Int32), vI c0, vI c1, vI c2, vI c3, vR a270, vI (0 : Int32)]) rfl k) ?_
                show Rch p e below T296 (mkF m 197 #[vI p0, vI p1, vI p2, vI p3, vI p4, vI (3 : Int32), vI c0, vI c1, vI c2, vI c3, vR a270, vI (0 : Int32)] []) _
                have R299 := R0.trans (CHr.ext Ex278 R0.1)
                have hk300 := Nat.le_trans (Nat.zero_le _) Ex278.1
                exact fin _ _ _ _ _ _ X296 e296 N296 Ex278 hS0 hk300 hZ hown R299 V277' (Or.inr ⟨rfl, fun z => q2 (z.2 c2 (by simp))⟩)
            · skip
              obtain rfl : r295 = 0 := v295 q1
              show Rch p e below T295 (mkF m 159 #[vI p0, vI p1, vI p2, vI p3, vI p4, vI (3 : Int32), vI c0, vI c1, vI c2, vI c3, vR a270, .unset] [(.int (0 : Int32))]) _
              refine Rch.st (fun _ k => XS.ifYes X295.here hx rfl (pc0 := 159) (pc' := 194) rfl (hb hby at_159) rfl (by decide : ifCond.holds .eq (0 : Int32) = true) (by decide) (by decide) k) ?_
              refine Rch.st (fun _ k => XS.iconst X295.here hx rfl (hb hby at_194)  k) ?_
              show Rch p e below T295 (mkF m 195 #[vI p0, vI p1, vI p2, vI p3, vI p4, vI (3 : Int32), vI c0, vI c1, vI c2, vI c3, vR a270, .unset] [(.int (0 : Int32))]) _
              refine Rch.st (fun _ k => XS.istore X295.here hx rfl (hb hby at_195) rfl (l' := #[vI p0, vI p1, vI p2, vI p3, vI p4, vI (3 : Int32), vI c0, vI c1, vI c2, vI c3, vR a270, vI (0 : Int32)]) rfl k) ?_
              show Rch p e below T295 (mkF m 197 #[vI p0, vI p1, vI p2, vI p3, vI p4, vI (3 : Int32), vI c0, vI c1, vI c2, vI c3, vR a270, vI (0 : Int32)] []) _
              have R301 := R0.trans (CHr.ext Ex278 R0.1)
              have hk302 := Nat.le_trans (Nat.zero_le _) Ex278.1
              exact fin _ _ _ _ _ _ X295 e295 N295 Ex278 hS0 hk302 hZ hown R301 V277' (Or.inr ⟨rfl, fun z => q1 (z.2 c1 (by simp))⟩)
          · skip
            obtain rfl : r294 = 0 := v294 q0
            show Rch p e below T294 (mkF m 145 #[vI p0, vI p1, vI p2, vI p3, vI p4, vI (3 : Int32), vI c0, vI c1, vI c2, vI c3, vR a270, .unset] [(.int (0 : Int32))]) _
            refine Rch.st (fun _ k => XS.ifYes X294.here hx rfl (pc0 := 145) (pc' := 194) rfl (hb hby at_145) rfl (by decide : ifCond.holds .eq (0 : Int32) = true) (by decide) (by decide) k) ?_
            refine Rch.st (fun _ k => XS.iconst X294.here hx rfl (hb hby at_194)  k) ?_
            show Rch p e below T294 (mkF m 195 #[vI p0, vI p1, vI p2, vI p3, vI p4, vI (3 : Int32), vI c0, vI c1, vI c2, vI c3, vR a270, .unset] [(.int (0 : Int32))]) _
            refine Rch.st (fun _ k => XS.istore X294.here hx rfl (hb hby at_195) rfl (l' := #[vI p0, vI p1, vI p2, vI p3, vI p4, vI (3 : Int32), vI c0, vI c1, vI c2, vI c3, vR a270, vI (0 : Int32)]) rfl k) ?_
            show Rch p e below T294 (mkF m 197 #[vI p0, vI p1, vI p2, vI p3, vI p4, vI (3 : Int32), vI c0, vI c1, vI c2, vI c3, vR a270, vI (0 : Int32)] []) _
            have R303 := R0.trans (CHr.ext Ex278 R0.1)
            have hk304 := Nat.le_trans (Nat.zero_le _) Ex278.1
            exact fin _ _ _ _ _ _ X294 e294 N294 Ex278 hS0 hk304 hZ hown R303 V277' (Or.inr ⟨rfl, fun z => q0 (z.2 c0 (by simp))⟩)
        · skip
          refine Rch.st (fun _ k => XS.icmpYes X0.here hx rfl (pc0 := 84) (pc' := 110) rfl (hb hby at_84) rfl (feq hn3).2 (by decide) (by decide) k) ?_
          refine Rch.st (fun _ k => XS.iconst X0.here hx rfl (hb hby at_110)  k) ?_
          show Rch p e below s₁ (mkF m 111 #[vI p0, vI p1, vI p2, vI p3, vI p4, vI ln, vI c0, vI c1, vI c2, vI c3, .unset, .unset] [(.int (4 : Int32))]) _
          have hn4 : ln = 4 := by rcases rln with q | q | q | q | q <;> first | exact q | (exact absurd q hn0) | (exact absurd q hn1) | (exact absurd q hn2) | (exact absurd q hn3)
          subst hn4
          show Rch p e below s₁ (mkF m 111 #[vI p0, vI p1, vI p2, vI p3, vI p4, vI (4 : Int32), vI c0, vI c1, vI c2, vI c3, .unset, .unset] [(.int (4 : Int32))]) _
          obtain ⟨T305, h305, k305, X305, e305, E305, A305, st305⟩ := newP X0 hx hZ (wq hw 0 rfl) e0 (g := (mkF m 111 #[vI p0, vI p1, vI p2, vI p3, vI p4, vI (4 : Int32), vI c0, vI c1, vI c2, vI c3, .unset, .unset] [(.int (4 : Int32))])) rfl (hb hby at_111) rfl (by decide : ¬ ((4 : Int32) < (0 : Int32))) (cap := 4) (by decide : ((4 : Int32)).toNatClampNeg ≤ 4) (by decide) (by decide) (by decide)
          obtain ⟨a305, g305⟩ : ∃ z, z = h0.size := ⟨_, rfl⟩
          rw [← g305] at A305 st305
          have Ex306 : Ext h0 h305 := E305
          have le307 : h0.size ≤ a305 := Nat.le_of_eq g305.symm
          refine Rch.st st305 ?_
          show Rch p e below T305 (mkF m 113 #[vI p0, vI p1, vI p2, vI p3, vI p4, vI (4 : Int32), vI c0, vI c1, vI c2, vI c3, .unset, .unset] [(.ref a305)]) _
          have V305 : Arv Z h305 a305 k305 .char (4 : Int32) [(.int (0 : Int32)), (.int (0 : Int32)), (.int (0 : Int32)), (.int (0 : Int32))] (.int (0 : Int32)) := (Arv.new A305 (by decide : ¬ ((4 : Int32) < (0 : Int32)))).pad (pad_rep [] (.int (0 : Int32)) 4)
          refine Rch.st (fun _ k => XS.dup X305.here hx rfl (hb hby at_113) rfl rfl k) ?_
          refine Rch.st (fun _ k => XS.iconst X305.here hx rfl (hb hby at_114)  k) ?_
          show Rch p e below T305 (mkF m 115 #[vI p0, vI p1, vI p2, vI p3, vI p4, vI (4 : Int32), vI c0, vI c1, vI c2, vI c3, .unset, .unset] [(.int (0 : Int32)), (.ref a305), (.ref a305)]) _
          refine Rch.st (fun _ k => XS.iload X305.here hx rfl (hb hby at_115) rfl k) ?_
          show Rch p e below T305 (mkF m 117 #[vI p0, vI p1, vI p2, vI p3, vI p4, vI (4 : Int32), vI c0, vI c1, vI c2, vI c3, .unset, .unset] [(.int c0), (.int (0 : Int32)), (.ref a305), (.ref a305)]) _
          obtain ⟨T308, h308, L308, sl308, X308, e308, W308, V308, N308, st308⟩ := stCv X305 hx hZ e305 V305 N0 (Nat.le_trans Z0 le307) (j := (0 : Int32)) ⟨by decide, by decide⟩ 0 rfl (Nat.le_of_ble_eq_true rfl) (g := (mkF m 117 #[vI p0, vI p1, vI p2, vI p3, vI p4, vI (4 : Int32), vI c0, vI c1, vI c2, vI c3, .unset, .unset] [(.int c0), (.int (0 : Int32)), (.ref a305), (.ref a305)])) rfl rfl (hb hby at_117)
          have V308_ := V308
          rw [k0.2] at V308_
          have V308' : Arv Z h308 a305 k305 .char (4 : Int32) [(.int c0), (.int (0 : Int32)), (.int (0 : Int32)), (.int (0 : Int32))] (.int (0 : Int32)) := V308_
          have Ex309 : Ext h0 h308 := extWr Ex306 W308 le307
          refine Rch.st st308 ?_
          show Rch p e below T308 (mkF m 118 #[vI p0, vI p1, vI p2, vI p3, vI p4, vI (4 : Int32), vI c0, vI c1, vI c2, vI c3, .unset, .unset] [(.ref a305)]) _
          refine Rch.st (fun _ k => XS.dup X308.here hx rfl (hb hby at_118) rfl rfl k) ?_
          refine Rch.st (fun _ k => XS.iconst X308.here hx rfl (hb hby at_119)  k) ?_
          show Rch p e below T308 (mkF m 120 #[vI p0, vI p1, vI p2, vI p3, vI p4, vI (4 : Int32), vI c0, vI c1, vI c2, vI c3, .unset, .unset] [(.int (1 : Int32)), (.ref a305), (.ref a305)]) _
          refine Rch.st (fun _ k => XS.iload X308.here hx rfl (hb hby at_120) rfl k) ?_
          show Rch p e below T308 (mkF m 122 #[vI p0, vI p1, vI p2, vI p3, vI p4, vI (4 : Int32), vI c0, vI c1, vI c2, vI c3, .unset, .unset] [(.int c1), (.int (1 : Int32)), (.ref a305), (.ref a305)]) _
          obtain ⟨T310, h310, L310, sl310, X310, e310, W310, V310, N310, st310⟩ := stCv X308 hx hZ e308 V308' N308 (Nat.le_trans Z0 le307) (j := (1 : Int32)) ⟨by decide, by decide⟩ 1 rfl (Nat.le_of_ble_eq_true rfl) (g := (mkF m 122 #[vI p0, vI p1, vI p2, vI p3, vI p4, vI (4 : Int32), vI c0, vI c1, vI c2, vI c3, .unset, .unset] [(.int c1), (.int (1 : Int32)), (.ref a305), (.ref a305)])) rfl rfl (hb hby at_122)
          have V310_ := V310
          rw [k1.2] at V310_
          have V310' : Arv Z h310 a305 k305 .char (4 : Int32) [(.int c0), (.int c1), (.int (0 : Int32)), (.int (0 : Int32))] (.int (0 : Int32)) := V310_
          have Ex311 : Ext h0 h310 := extWr Ex309 W310 le307
          refine Rch.st st310 ?_
          show Rch p e below T310 (mkF m 123 #[vI p0, vI p1, vI p2, vI p3, vI p4, vI (4 : Int32), vI c0, vI c1, vI c2, vI c3, .unset, .unset] [(.ref a305)]) _
          refine Rch.st (fun _ k => XS.dup X310.here hx rfl (hb hby at_123) rfl rfl k) ?_
          refine Rch.st (fun _ k => XS.iconst X310.here hx rfl (hb hby at_124)  k) ?_
          show Rch p e below T310 (mkF m 125 #[vI p0, vI p1, vI p2, vI p3, vI p4, vI (4 : Int32), vI c0, vI c1, vI c2, vI c3, .unset, .unset] [(.int (2 : Int32)), (.ref a305), (.ref a305)]) _
          refine Rch.st (fun _ k => XS.iload X310.here hx rfl (hb hby at_125) rfl k) ?_
          show Rch p e below T310 (mkF m 127 #[vI p0, vI p1, vI p2, vI p3, vI p4, vI (4 : Int32), vI c0, vI c1, vI c2, vI c3, .unset, .unset] [(.int c2), (.int (2 : Int32)), (.ref a305), (.ref a305)]) _
          obtain ⟨T312, h312, L312, sl312, X312, e312, W312, V312, N312, st312⟩ := stCv X310 hx hZ e310 V310' N310 (Nat.le_trans Z0 le307) (j := (2 : Int32)) ⟨by decide, by decide⟩ 2 rfl (Nat.le_of_ble_eq_true rfl) (g := (mkF m 127 #[vI p0, vI p1, vI p2, vI p3, vI p4, vI (4 : Int32), vI c0, vI c1, vI c2, vI c3, .unset, .unset] [(.int c2), (.int (2 : Int32)), (.ref a305), (.ref a305)])) rfl rfl (hb hby at_127)
          have V312_ := V312
          rw [k2.2] at V312_
          have V312' : Arv Z h312 a305 k305 .char (4 : Int32) [(.int c0), (.int c1), (.int c2), (.int (0 : Int32))] (.int (0 : Int32)) := V312_
          have Ex313 : Ext h0 h312 := extWr Ex311 W312 le307
          refine Rch.st st312 ?_
          show Rch p e below T312 (mkF m 128 #[vI p0, vI p1, vI p2, vI p3, vI p4, vI (4 : Int32), vI c0, vI c1, vI c2, vI c3, .unset, .unset] [(.ref a305)]) _
          refine Rch.st (fun _ k => XS.dup X312.here hx rfl (hb hby at_128) rfl rfl k) ?_
          refine Rch.st (fun _ k => XS.iconst X312.here hx rfl (hb hby at_129)  k) ?_
          show Rch p e below T312 (mkF m 130 #[vI p0, vI p1, vI p2, vI p3, vI p4, vI (4 : Int32), vI c0, vI c1, vI c2, vI c3, .unset, .unset] [(.int (3 : Int32)), (.ref a305), (.ref a305)]) _
          refine Rch.st (fun _ k => XS.iload X312.here hx rfl (hb hby at_130) rfl k) ?_
          show Rch p e below T312 (mkF m 132 #[vI p0, vI p1, vI p2, vI p3, vI p4, vI (4 : Int32), vI c0, vI c1, vI c2, vI c3, .unset, .unset] [(.int c3), (.int (3 : Int32)), (.ref a305), (.ref a305)]) _
          obtain ⟨T314, h314, L314, sl314, X314, e314, W314, V314, N314, st314⟩ := stCv X312 hx hZ e312 V312' N312 (Nat.le_trans Z0 le307) (j := (3 : Int32)) ⟨by decide, by decide⟩ 3 rfl (Nat.le_of_ble_eq_true rfl) (g := (mkF m 132 #[vI p0, vI p1, vI p2, vI p3, vI p4, vI (4 : Int32), vI c0, vI c1, vI c2, vI c3, .unset, .unset] [(.int c3), (.int (3 : Int32)), (.ref a305), (.ref a305)])) rfl rfl (hb hby at_132)
          have V314_ := V314
          rw [k3.2] at V314_
          have V314' : Arv Z h314 a305 k305 .char (4 : Int32) [(.int c0), (.int c1), (.int c2), (.int c3)] (.int (0 : Int32)) := V314_
          have Ex315 : Ext h0 h314 := extWr Ex313 W314 le307
          refine Rch.st st314 ?_
          show Rch p e below T314 (mkF m 133 #[vI p0, vI p1, vI p2, vI p3, vI p4, vI (4 : Int32), vI c0, vI c1, vI c2, vI c3, .unset, .unset] [(.ref a305)]) _
          refine Rch.st (fun _ k => XS.astore X314.here hx rfl (hb hby at_133) rfl rfl (l' := #[vI p0, vI p1, vI p2, vI p3, vI p4, vI (4 : Int32), vI c0, vI c1, vI c2, vI c3, vR a305, .unset]) rfl k) ?_
          show Rch p e below T314 (mkF m 135 #[vI p0, vI p1, vI p2, vI p3, vI p4, vI (4 : Int32), vI c0, vI c1, vI c2, vI c3, vR a305, .unset] []) _
          have fin : ∀ (T316 : State) (lc316 : List Loc) (h316 : Heap) (vm316 : Vm) (k0_316 : Nat) (ex : Int32), Stand p l e room_1 (s.setVm vm316) m #[(.int p0), (.int p1), (.int p2), (.int p3), (.int p4)] below meth c T316 lc316 1 4 → T316.heap = h316 → Fr n0 lc316 → Ext h0 h316 → s.Since vm316 k0_316 → k0_316 ≤ h316.size → Z.Warmed39 (s.setVm vm316).vm → (s.setVm vm316).vm.findClass "com/example/permitd/permitd/http/HeadersIsTokenPinLaw" = some m.cls → CHr Z EL s.vm s.heap vm316 h316 → (Arv Z h316 a305 k305 .char (4 : Int32) [(.int c0), (.int c1), (.int c2), (.int c3)] (.int (0 : Int32))) → ((ex = 1 ∧ (¬ ([c0, c1, c2, c3] : List Int32) = [] ∧ ∀ c ∈ ([c0, c1, c2, c3] : List Int32), tokB c = true)) ∨ (ex = 0 ∧ ¬ (¬ ([c0, c1, c2, c3] : List Int32) = [] ∧ ∀ c ∈ ([c0, c1, c2, c3] : List Int32), tokB c = true))) → Rch p e below T316 (mkF m 197 #[vI p0, vI p1, vI p2, vI p3, vI p4, vI (4 : Int32), vI c0, vI c1, vI c2, vI c3, vR a305, vI ex] []) (fun U o => ∃ v L, o = .returned v ∧ Q_law Z p0 p1 p2 p3 p4 fm h0 n0 v U.heap L ∧ CHr Z EL s.vm s.heap U.vm U.heap ∧ ReturnedEndW s o U L 24 2176) := by
            intro T316 lc316 h316 vm316 k0_316 ex X316 e316 N316 Ex316 hS316 hk316 hZ316 hown316 R316 MV hex
            show Rch p e below T316 (mkF m 197 #[vI p0, vI p1, vI p2, vI p3, vI p4, vI (4 : Int32), vI c0, vI c1, vI c2, vI c3, vR a305, vI ex] []) _
            obtain ⟨T317, h317, X317, e317, E317, A317, D317, -, st317⟩ := newO X316 hx hZ316 hown316 (wq hw 1 rfl) (wq hw 2 rfl) (wq hw 3 rfl) e316 (g := (mkF m 197 #[vI p0, vI p1, vI p2, vI p3, vI p4, vI (4 : Int32), vI c0, vI c1, vI c2, vI c3, vR a305, vI ex] [])) rfl (hb hby at_197) (by decide) (by decide)
            obtain ⟨a317, g317⟩ : ∃ z, z = h316.size := ⟨_, rfl⟩
            rw [← g317] at A317 D317 st317
            have Ex318 : Ext h0 h317 := Ex316.tr E317
            have Ex319 : Ext h316 h317 := E317
            have le320 : h0.size ≤ a317 := Nat.le_trans Ex316.1 (Nat.le_of_eq g317.symm)
            have le321 : h316.size ≤ a317 := Nat.le_of_eq g317.symm
            refine Rch.st st317 ?_
            show Rch p e below T317 (mkF m 200 #[vI p0, vI p1, vI p2, vI p3, vI p4, vI (4 : Int32), vI c0, vI c1, vI c2, vI c3, vR a305, vI ex] [(.ref a317)]) _
            refine Rch.st (fun _ k => XS.dup X317.here hx rfl (hb hby at_200) rfl rfl k) ?_
            refine Rch.st (fun _ k => XS.aload X317.here hx rfl (hb hby at_201) rfl rfl k) ?_
            show Rch p e below T317 (mkF m 203 #[vI p0, vI p1, vI p2, vI p3, vI p4, vI (4 : Int32), vI c0, vI c1, vI c2, vI c3, vR a305, vI ex] [(.ref a305), (.ref a317), (.ref a317)]) _
            obtain ⟨_, _, ⟨T322, L322, k322, n322⟩, -, X322, ⟨Lc322, hQ322, l322, y322, z322⟩, st322⟩ := X317.specialBack hx (y := (⟨"java/lang/String", "<init>", "([C)V"⟩ : MethodName)) rfl hown316 (mvT hZ316 (wq hw 4 rfl)) (mvT hZ316 (wq hw 5 rfl)) (mvT hZ316 (wq hw 6 rfl)) (by decide) (newS (W := 1) hZ316 hw (cs := [c0, c1, c2, c3]) (Nat.le_trans Z0 le320) (Nat.le_trans Z0 Ex318.1) A317 ((D317 (Or.inr (wq hw 16 rfl)) (ty := (.array .byte)) (by decide)).ext Ext.rf) ((D317 (Or.inr (wq hw 17 rfl)) (ty := .byte) (by decide)).ext Ext.rf) (MV.ext Ex319) (B.ext Ex318) (c16_cons k0.1 (c16_cons k1.1 (c16_cons k2.1 (c16_cons k3.1 c16_nil)))) (Nat.le_of_ble_eq_true rfl) (Nat.le_of_ble_eq_true rfl) (by decide) (by decide)) (g := (mkF m 203 #[vI p0, vI p1, vI p2, vI p3, vI p4, vI (4 : Int32), vI c0, vI c1, vI c2, vI c3, vR a305, vI ex] [(.ref a305), (.ref a317), (.ref a317)])) rfl (by rw [hml]; rfl) (Steps.refl _) (a := a317) (argsL := [(.ref a305)]) (rest := [(.ref a317)]) (lenOf pd_18 rfl) rfl (by show 2 * 0 + _ ≤ _; exact Nat.le_of_eq rfl) (hb hby at_203) (fun _ _ => ⟨rfl, e317, (by decide : 2 + 2 ≤ _), (by decide : 8 + 12 ≤ _)⟩)
            dsimp only [Pt.U, Pt.locs, Pt.cells, Pt.slots] at X322 l322 y322 z322 st322 hQ322
            subst l322 y322 z322
            obtain ⟨rfl, Nq322, K322, Q322⟩ := hQ322
            have N322 := Fr.app N316 Nq322
            have Ex323 : Ext h0 T322.heap := extKeep1 Ex318 K322 le320
            have Ex324 : Ext h316 T322.heap := extKeep1 Ex319 K322 le321
            refine Rch.go st322 ?_
            show Rch p e below T322 (mkF m 206 #[vI p0, vI p1, vI p2, vI p3, vI p4, vI (4 : Int32), vI c0, vI c1, vI c2, vI c3, vR a305, vI ex] [(.ref a317)]) _
            have R325 := R316.trans (CHr.ext Ex324 R316.1)
            have hk326 := Nat.le_trans hk316 Ex324.1
            obtain ⟨_, _, ⟨T327, L327, k327, n327⟩, -, X327_, hS327_, hg327_, ⟨Lc327, hQ327, l327, y327, z327, CR327⟩, st327⟩ := callSS X322 hx (y := (⟨"com/example/permitd/permitd/http/Headers", "isToken", "(Ljava/lang/String;)Z"⟩ : MethodName)) hown316 (mvT hZ316 (wq hw 22 rfl)) (mvT hZ316 (wq hw 23 rfl)) (mvT hZ316 (wq hw 24 rfl)) (mvT hZ316 (wq hw 25 rfl)) (by decide) (backOfSH (W := 0) (rm_isTok l Z a0 hw [] a317 ([c0, c1, c2, c3] : List Int32) fm T322.heap n0 (Nat.le_trans Z0 Ex323.1) Q322 (B.ext Ex323) (Nat.le_of_ble_eq_true rfl)) hZ316 (wq hw 25 rfl) (wq hw 24 rfl) (by decide) (by decide) hEL R325.1) (g := (mkF m 206 #[vI p0, vI p1, vI p2, vI p3, vI p4, vI (4 : Int32), vI c0, vI c1, vI c2, vI c3, vR a305, vI ex] [(.ref a317)])) rfl (by rw [hml]; rfl) (argsL := [(.ref a317)]) (rest := []) (lenOf pd_19 rfl) rfl (by show 2 * 0 + _ ≤ _; exact Nat.le_of_eq rfl) (hb hby at_206) (fun _ _ => ⟨rfl, rfl, (by decide : 4 + 8 ≤ _), (by decide : 20 + 256 ≤ _)⟩)
            dsimp only [Pt.U, Pt.locs, Pt.cells, Pt.slots] at X327_ hS327_ hg327_ l327 y327 z327 st327 hQ327 CR327
            subst l327 y327 z327
            obtain ⟨X327, hS327, hZ327, hown327⟩ := rebS hS316 hk326 X327_ hS327_ hg327_ hZ316 hown316
            obtain ⟨r327, rfl, Nq327, E327, u327, v327⟩ := hQ327
            have N327 := Fr.app N322 Nq327
            have R327 := R325.trans CR327
            have Ex328 : Ext h0 T327.heap := Ex323.tr E327
            have Ex329 : Ext h316 T327.heap := Ex324.tr E327
            have Ex330 : Ext T322.heap T327.heap := E327
            refine Rch.go st327 ?_
            show Rch p e below T327 (mkF m 209 #[vI p0, vI p1, vI p2, vI p3, vI p4, vI (4 : Int32), vI c0, vI c1, vI c2, vI c3, vR a305, vI ex] [(.int r327)]) _
            obtain ⟨rfl, hq⟩ | ⟨rfl, hq⟩ := hex
            · skip
              obtain rfl : r327 = 1 := u327 hq
              show Rch p e below T327 (mkF m 209 #[vI p0, vI p1, vI p2, vI p3, vI p4, vI (4 : Int32), vI c0, vI c1, vI c2, vI c3, vR a305, vI (1 : Int32)] [(.int (1 : Int32))]) _
              refine Rch.st (fun _ k => XS.iload X327.here hx rfl (hb hby at_209) rfl k) ?_
              refine Rch.st (fun _ k => XS.icmpNo X327.here hx rfl (hb hby at_211) rfl (by decide : if_icmp.holds .ne (1 : Int32) (1 : Int32) = false) k) ?_
              show Rch p e below T327 (mkF m 214 #[vI p0, vI p1, vI p2, vI p3, vI p4, vI (4 : Int32), vI c0, vI c1, vI c2, vI c3, vR a305, vI (1 : Int32)] []) _
              refine Rch.st (fun _ k => XS.iconst X327.here hx rfl (hb hby at_214)  k) ?_
              refine Rch.st (fun _ k => XS.goto X327.here hx rfl (pc0 := 215) (pc' := 219) rfl (hb hby at_215) (by decide) (by decide) k) ?_
              show Rch p e below T327 (mkF m 219 #[vI p0, vI p1, vI p2, vI p3, vI p4, vI (4 : Int32), vI c0, vI c1, vI c2, vI c3, vR a305, vI (1 : Int32)] [(.int (1 : Int32))]) _
              exact Rch.finW (Q := Q_law Z p0 p1 p2 p3 p4 fm h0 n0) X327 hZ327 hEL hS327 (Nat.le_refl _) rfl R327 (v := some (.int (1 : Int32))) (fun h => by rw [Bd.returns] at h; cases h) (BodyLoose.notSynchronized Bd) (fun fs hr => retN X327 hx (t := .boolean) Bd.returns (by simp) (hb hby at_219) hr) ⟨rfl, N327⟩ (by decide) (by decide)
            · skip
              obtain rfl : r327 = 0 := v327 hq
              show Rch p e below T327 (mkF m 209 #[vI p0, vI p1, vI p2, vI p3, vI p4, vI (4 : Int32), vI c0, vI c1, vI c2, vI c3, vR a305, vI (0 : Int32)] [(.int (0 : Int32))]) _
              refine Rch.st (fun _ k => XS.iload X327.here hx rfl (hb hby at_209) rfl k) ?_
              refine Rch.st (fun _ k => XS.icmpNo X327.here hx rfl (hb hby at_211) rfl (by decide : if_icmp.holds .ne (0 : Int32) (0 : Int32) = false) k) ?_
              show Rch p e below T327 (mkF m 214 #[vI p0, vI p1, vI p2, vI p3, vI p4, vI (4 : Int32), vI c0, vI c1, vI c2, vI c3, vR a305, vI (0 : Int32)] []) _
              refine Rch.st (fun _ k => XS.iconst X327.here hx rfl (hb hby at_214)  k) ?_
              refine Rch.st (fun _ k => XS.goto X327.here hx rfl (pc0 := 215) (pc' := 219) rfl (hb hby at_215) (by decide) (by decide) k) ?_
              show Rch p e below T327 (mkF m 219 #[vI p0, vI p1, vI p2, vI p3, vI p4, vI (4 : Int32), vI c0, vI c1, vI c2, vI c3, vR a305, vI (0 : Int32)] [(.int (1 : Int32))]) _
              exact Rch.finW (Q := Q_law Z p0 p1 p2 p3 p4 fm h0 n0) X327 hZ327 hEL hS327 (Nat.le_refl _) rfl R327 (v := some (.int (1 : Int32))) (fun h => by rw [Bd.returns] at h; cases h) (BodyLoose.notSynchronized Bd) (fun fs hr => retN X327 hx (t := .boolean) Bd.returns (by simp) (hb hby at_219) hr) ⟨rfl, N327⟩ (by decide) (by decide)
          refine Rch.st (fun _ k => XS.iload X314.here hx rfl (hb hby at_135) rfl k) ?_
          refine Rch.st (fun _ k => XS.ifNo X314.here hx rfl (hb hby at_137) rfl (by decide : ifCond.holds .le (4 : Int32) = false) k) ?_
          show Rch p e below T314 (mkF m 140 #[vI p0, vI p1, vI p2, vI p3, vI p4, vI (4 : Int32), vI c0, vI c1, vI c2, vI c3, vR a305, .unset] []) _
          refine Rch.st (fun _ k => XS.iload X314.here hx rfl (hb hby at_140) rfl k) ?_
          show Rch p e below T314 (mkF m 142 #[vI p0, vI p1, vI p2, vI p3, vI p4, vI (4 : Int32), vI c0, vI c1, vI c2, vI c3, vR a305, .unset] [(.int c0)]) _
          obtain ⟨_, _, ⟨T331, L331, k331, n331⟩, -, X331, ⟨Lc331, hQ331, l331, y331, z331⟩, st331⟩ := Jvm.LawKit.callS X314 hx (y := (⟨"com/example/permitd/permitd/http/HeadersIsTokenPinLaw", "tok", "(C)Z"⟩ : MethodName)) hown (mvT hZ (wq hw 31 rfl)) (mvT hZ (wq hw 32 rfl)) (mvT hZ (wq hw 33 rfl)) (mvT hZ (wq hw 34 rfl)) (by decide) (backOf (W := 0) (rm_tok l Z a0 hw [] c0 h314 n0 (Nat.le_trans Z0 Ex315.1) k0.1.1) hZ (wq hw 34 rfl) (wq hw 33 rfl) (by decide) (by decide)) (g := (mkF m 142 #[vI p0, vI p1, vI p2, vI p3, vI p4, vI (4 : Int32), vI c0, vI c1, vI c2, vI c3, vR a305, .unset] [(.int c0)])) rfl (by rw [hml]; rfl) (argsL := [(.int c0)]) (rest := []) (lenOf pd_20 rfl) rfl (by show 2 * 0 + _ ≤ _; exact Nat.le_of_eq rfl) (hb hby at_142) (fun _ _ => ⟨rfl, e314, (by decide : 1 + 0 ≤ _), (by decide : 4 + 0 ≤ _)⟩)
          dsimp only [Pt.U, Pt.locs, Pt.cells, Pt.slots] at X331 l331 y331 z331 st331 hQ331
          subst l331 y331 z331
          obtain ⟨r331, rfl, Nq331, e331, u331, v331⟩ := hQ331
          have N331 := Fr.app N314 Nq331
          refine Rch.st st331 ?_
          show Rch p e below T331 (mkF m 145 #[vI p0, vI p1, vI p2, vI p3, vI p4, vI (4 : Int32), vI c0, vI c1, vI c2, vI c3, vR a305, .unset] [(.int r331)]) _
          by_cases q0 : tokB c0 = true
          · skip
            obtain rfl : r331 = 1 := u331 q0
            show Rch p e below T331 (mkF m 145 #[vI p0, vI p1, vI p2, vI p3, vI p4, vI (4 : Int32), vI c0, vI c1, vI c2, vI c3, vR a305, .unset] [(.int (1 : Int32))]) _
            refine Rch.st (fun _ k => XS.ifNo X331.here hx rfl (hb hby at_145) rfl (by decide : ifCond.holds .eq (1 : Int32) = false) k) ?_
            refine Rch.st (fun _ k => XS.iload X331.here hx rfl (hb hby at_148) rfl k) ?_
            show Rch p e below T331 (mkF m 150 #[vI p0, vI p1, vI p2, vI p3, vI p4, vI (4 : Int32), vI c0, vI c1, vI c2, vI c3, vR a305, .unset] [(.int (4 : Int32))]) _
            refine Rch.st (fun _ k => XS.iconst X331.here hx rfl (hb hby at_150)  k) ?_
            refine Rch.st (fun _ k => XS.icmpNo X331.here hx rfl (hb hby at_151) rfl (by decide : if_icmp.holds .lt (4 : Int32) (2 : Int32) = false) k) ?_
            show Rch p e below T331 (mkF m 154 #[vI p0, vI p1, vI p2, vI p3, vI p4, vI (4 : Int32), vI c0, vI c1, vI c2, vI c3, vR a305, .unset] []) _
            refine Rch.st (fun _ k => XS.iload X331.here hx rfl (hb hby at_154) rfl k) ?_
            show Rch p e below T331 (mkF m 156 #[vI p0, vI p1, vI p2, vI p3, vI p4, vI (4 : Int32), vI c0, vI c1, vI c2, vI c3, vR a305, .unset] [(.int c1)]) _
            obtain ⟨_, _, ⟨T332, L332, k332, n332⟩, -, X332, ⟨Lc332, hQ332, l332, y332, z332⟩, st332⟩ := Jvm.LawKit.callS X331 hx (y := (⟨"com/example/permitd/permitd/http/HeadersIsTokenPinLaw", "tok", "(C)Z"⟩ : MethodName)) hown (mvT hZ (wq hw 31 rfl)) (mvT hZ (wq hw 32 rfl)) (mvT hZ (wq hw 33 rfl)) (mvT hZ (wq hw 34 rfl)) (by decide) (backOf (W := 0) (rm_tok l Z a0 hw [] c1 h314 n0 (Nat.le_trans Z0 Ex315.1) k1.1.1) hZ (wq hw 34 rfl) (wq hw 33 rfl) (by decide) (by decide)) (g := (mkF m 156 #[vI p0, vI p1, vI p2, vI p3, vI p4, vI (4 : Int32), vI c0, vI c1, vI c2, vI c3, vR a305, .unset] [(.int c1)])) rfl (by rw [hml]; rfl) (argsL := [(.int c1)]) (rest := []) (lenOf pd_20 rfl) rfl (by show 2 * 0 + _ ≤ _; exact Nat.le_of_eq rfl) (hb hby at_156) (fun _ _ => ⟨rfl, e331, (by decide : 1 + 0 ≤ _), (by decide : 4 + 0 ≤ _)⟩)
            dsimp only [Pt.U, Pt.locs, Pt.cells, Pt.slots] at X332 l332 y332 z332 st332 hQ332
            subst l332 y332 z332
            obtain ⟨r332, rfl, Nq332, e332, u332, v332⟩ := hQ332
            have N332 := Fr.app N331 Nq332
            refine Rch.st st332 ?_
            show Rch p e below T332 (mkF m 159 #[vI p0, vI p1, vI p2, vI p3, vI p4, vI (4 : Int32), vI c0, vI c1, vI c2, vI c3, vR a305, .unset] [(.int r332)]) _
            by_cases q1 : tokB c1 = true
            · skip
              obtain rfl : r332 = 1 := u332 q1
              show Rch p e below T332 (mkF m 159 #[vI p0, vI p1, vI p2, vI p3, vI p4, vI (4 : Int32), vI c0, vI c1, vI c2, vI c3, vR a305, .unset] [(.int (1 : Int32))]) _
              refine Rch.st (fun _ k => XS.ifNo X332.here hx rfl (hb hby at_159) rfl (by decide : ifCond.holds .eq (1 : Int32) = false) k) ?_
              refine Rch.st (fun _ k => XS.iload X332.here hx rfl (hb hby at_162) rfl k) ?_
              show Rch p e below T332 (mkF m 164 #[vI p0, vI p1, vI p2, vI p3, vI p4, vI (4 : Int32), vI c0, vI c1, vI c2, vI c3, vR a305, .unset] [(.int (4 : Int32))]) _
              refine Rch.st (fun _ k => XS.iconst X332.here hx rfl (hb hby at_164)  k) ?_
              refine Rch.st (fun _ k => XS.icmpNo X332.here hx rfl (hb hby at_165) rfl (by decide : if_icmp.holds .lt (4 : Int32) (3 : Int32) = false) k) ?_
              show Rch p e below T332 (mkF m 168 #[vI p0, vI p1, vI p2, vI p3, vI p4, vI (4 : Int32), vI c0, vI c1, vI c2, vI c3, vR a305, .unset] []) _
              refine Rch.st (fun _ k => XS.iload X332.here hx rfl (hb hby at_168) rfl k) ?_
              show Rch p e below T332 (mkF m 170 #[vI p0, vI p1, vI p2, vI p3, vI p4, vI (4 : Int32), vI c0, vI c1, vI c2, vI c3, vR a305, .unset] [(.int c2)]) _
              obtain ⟨_, _, ⟨T333, L333, k333, n333⟩, -, X333, ⟨Lc333, hQ333, l333, y333, z333⟩, st333⟩ := Jvm.LawKit.callS X332 hx (y := (⟨"com/example/permitd/permitd/http/HeadersIsTokenPinLaw", "tok", "(C)Z"⟩ : MethodName)) hown (mvT hZ (wq hw 31 rfl)) (mvT hZ (wq hw 32 rfl)) (mvT hZ (wq hw 33 rfl)) (mvT hZ (wq hw 34 rfl)) (by decide) (backOf (W := 0) (rm_tok l Z a0 hw [] c2 h314 n0 (Nat.le_trans Z0 Ex315.1) k2.1.1) hZ (wq hw 34 rfl) (wq hw 33 rfl) (by decide) (by decide)) (g := (mkF m 170 #[vI p0, vI p1, vI p2, vI p3, vI p4, vI (4 : Int32), vI c0, vI c1, vI c2, vI c3, vR a305, .unset] [(.int c2)])) rfl (by rw [hml]; rfl) (argsL := [(.int c2)]) (rest := []) (lenOf pd_20 rfl) rfl (by show 2 * 0 + _ ≤ _; exact Nat.le_of_eq rfl) (hb hby at_170) (fun _ _ => ⟨rfl, e332, (by decide : 1 + 0 ≤ _), (by decide : 4 + 0 ≤ _)⟩)
              dsimp only [Pt.U, Pt.locs, Pt.cells, Pt.slots] at X333 l333 y333 z333 st333 hQ333
              subst l333 y333 z333
              obtain ⟨r333, rfl, Nq333, e333, u333, v333⟩ := hQ333
              have N333 := Fr.app N332 Nq333
              refine Rch.st st333 ?_
              show Rch p e below T333 (mkF m 173 #[vI p0, vI p1, vI p2, vI p3, vI p4, vI (4 : Int32), vI c0, vI c1, vI c2, vI c3, vR a305, .unset] [(.int r333)]) _
              by_cases q2 : tokB c2 = true
              · skip
                obtain rfl : r333 = 1 := u333 q2
                show Rch p e below T333 (mkF m 173 #[vI p0, vI p1, vI p2, vI p3, vI p4, vI (4 : Int32), vI c0, vI c1, vI c2, vI c3, vR a305, .unset] [(.int (1 : Int32))]) _
                refine Rch.st (fun _ k => XS.ifNo X333.here hx rfl (hb hby at_173) rfl (by decide : ifCond.holds .eq (1 : Int32) = false) k) ?_
                refine Rch.st (fun _ k => XS.iload X333.here hx rfl (hb hby at_176) rfl k) ?_
                show Rch p e below T333 (mkF m 178 #[vI p0, vI p1, vI p2, vI p3, vI p4, vI (4 : Int32), vI c0, vI c1, vI c2, vI c3, vR a305, .unset] [(.int (4 : Int32))]) _
                refine Rch.st (fun _ k => XS.iconst X333.here hx rfl (hb hby at_178)  k) ?_
                refine Rch.st (fun _ k => XS.icmpNo X333.here hx rfl (hb hby at_179) rfl (by decide : if_icmp.holds .lt (4 : Int32) (4 : Int32) = false) k) ?_
                show Rch p e below T333 (mkF m 182 #[vI p0, vI p1, vI p2, vI p3, vI p4, vI (4 : Int32), vI c0, vI c1, vI c2, vI c3, vR a305, .unset] []) _
                refine Rch.st (fun _ k => XS.iload X333.here hx rfl (hb hby at_182) rfl k) ?_
                show Rch p e below T333 (mkF m 184 #[vI p0, vI p1, vI p2, vI p3, vI p4, vI (4 : Int32), vI c0, vI c1, vI c2, vI c3, vR a305, .unset] [(.int c3)]) _
                obtain ⟨_, _, ⟨T334, L334, k334, n334⟩, -, X334, ⟨Lc334, hQ334, l334, y334, z334⟩, st334⟩ := Jvm.LawKit.callS X333 hx (y := (⟨"com/example/permitd/permitd/http/HeadersIsTokenPinLaw", "tok", "(C)Z"⟩ : MethodName)) hown (mvT hZ (wq hw 31 rfl)) (mvT hZ (wq hw 32 rfl)) (mvT hZ (wq hw 33 rfl)) (mvT hZ (wq hw 34 rfl)) (by decide) (backOf (W := 0) (rm_tok l Z a0 hw [] c3 h314 n0 (Nat.le_trans Z0 Ex315.1) k3.1.1) hZ (wq hw 34 rfl) (wq hw 33 rfl) (by decide) (by decide)) (g := (mkF m 184 #[vI p0, vI p1, vI p2, vI p3, vI p4, vI (4 : Int32), vI c0, vI c1, vI c2, vI c3, vR a305, .unset] [(.int c3)])) rfl (by rw [hml]; rfl) (argsL := [(.int c3)]) (rest := []) (lenOf pd_20 rfl) rfl (by show 2 * 0 + _ ≤ _; exact Nat.le_of_eq rfl) (hb hby at_184) (fun _ _ => ⟨rfl, e333, (by decide : 1 + 0 ≤ _), (by decide : 4 + 0 ≤ _)⟩)
                dsimp only [Pt.U, Pt.locs, Pt.cells, Pt.slots] at X334 l334 y334 z334 st334 hQ334
                subst l334 y334 z334
                obtain ⟨r334, rfl, Nq334, e334, u334, v334⟩ := hQ334
                have N334 := Fr.app N333 Nq334
                refine Rch.st st334 ?_
                show Rch p e below T334 (mkF m 187 #[vI p0, vI p1, vI p2, vI p3, vI p4, vI (4 : Int32), vI c0, vI c1, vI c2, vI c3, vR a305, .unset] [(.int r334)]) _
                by_cases q3 : tokB c3 = true
                · skip
                  obtain rfl : r334 = 1 := u334 q3
                  show Rch p e below T334 (mkF m 187 #[vI p0, vI p1, vI p2, vI p3, vI p4, vI (4 : Int32), vI c0, vI c1, vI c2, vI c3, vR a305, .unset] [(.int (1 : Int32))]) _
                  refine Rch.st (fun _ k => XS.ifNo X334.here hx rfl (hb hby at_187) rfl (by decide : ifCond.holds .eq (1 : Int32) = false) k) ?_
                  refine Rch.st (fun _ k => XS.iconst X334.here hx rfl (hb hby at_190)  k) ?_
                  show Rch p e below T334 (mkF m 191 #[vI p0, vI p1, vI p2, vI p3, vI p4, vI (4 : Int32), vI c0, vI c1, vI c2, vI c3, vR a305, .unset] [(.int (1 : Int32))]) _
                  refine Rch.st (fun _ k => XS.goto X334.here hx rfl (pc0 := 191) (pc' := 195) rfl (hb hby at_191) (by decide) (by decide) k) ?_
                  refine Rch.st (fun _ k => XS.istore X334.here hx rfl (hb hby at_195) rfl (l' := #[vI p0, vI p1, vI p2, vI p3, vI p4, vI (4 : Int32), vI c0, vI c1, vI c2, vI c3, vR a305, vI (1 : Int32)]) rfl k) ?_
                  show Rch p e below T334 (mkF m 197 #[vI p0, vI p1, vI p2, vI p3, vI p4, vI (4 : Int32), vI c0, vI c1, vI c2, vI c3, vR a305, vI (1 : Int32)] []) _
                  have R335 := R0.trans (CHr.ext Ex315 R0.1)
                  have hk336 := Nat.le_trans (Nat.zero_le _) Ex315.1
                  exact fin _ _ _ _ _ _ X334 e334 N334 Ex315 hS0 hk336 hZ hown R335 V314' (Or.inl ⟨rfl, ⟨List.cons_ne_nil _ _, by simp [q0, q1, q2, q3]⟩⟩)
                · skip
                  obtain rfl : r334 = 0 := v334 q3
                  show Rch p e below T334 (mkF m 187 #[vI p0, vI p1, vI p2, vI p3, vI p4, vI (4 : Int32), vI c0, vI c1, vI c2, vI c3, vR a305, .unset] [(.int (0 : Int32))]) _
                  refine Rch.st (fun _ k => XS.ifYes X334.here hx rfl (pc0 := 187) (pc' := 194) rfl (hb hby at_187) rfl (by decide : ifCond.holds .eq (0 : Int32) = true) (by decide) (by decide) k) ?_
                  refine Rch.st (fun _ k => XS.iconst X334.here hx rfl (hb hby at_194)  k) ?_
                  show Rch p e below T334 (mkF m 195 #[vI p0, vI p1, vI p2, vI p3, vI p4, vI (4 : Int32), vI c0, vI c1, vI c2, vI c3, vR a305, .unset] [(.int (0 : Int32))]) _
                  refine Rch.st (fun _ k => XS.istore X334.here hx rfl (hb hby at_195) rfl (l' := #[vI p0, vI p1, vI p2, vI p3, vI p4, vI (4 : Int32), vI c0, vI c1, vI c2, vI c3, vR a305, vI (0 : Int32)]) rfl k) ?_
                  show Rch p e below T334 (mkF m 197 #[vI p0, vI p1, vI p2, vI p3, vI p4, vI (4 : Int32), vI c0, vI c1, vI c2, vI c3, vR a305, vI (0 : Int32)] []) _
                  have R337 := R0.trans (CHr.ext Ex315 R0.1)
                  have hk338 := Nat.le_trans (Nat.zero_le _) Ex315.1
                  exact fin _ _ _ _ _ _ X334 e334 N334 Ex315 hS0 hk338 hZ hown R337 V314' (Or.inr ⟨rfl, fun z => q3 (z.2 c3 (by simp))⟩)
              · skip
                obtain rfl : r333 = 0 := v333 q2
                show Rch p e below T333 (mkF m 173 #[vI p0, vI p1, vI p2, vI p3, vI p4, vI (4 : Int32), vI c0, vI c1, vI c2, vI c3, vR a305, .unset] [(.int (0 : Int32))]) _
                refine Rch.st (fun _ k => XS.ifYes X333.here hx rfl (pc0 := 173) (pc' := 194) rfl (hb hby at_173) rfl (by decide : ifCond.holds .eq (0 : Int32) = true) (by decide) (by decide) k) ?_
                refine Rch.st (fun _ k => XS.iconst X333.here hx rfl (hb hby at_194)  k) ?_
                show Rch p e below T333 (mkF m 195 #[vI p0, vI p1, vI p2, vI p3, vI p4, vI (4 : Int32), vI c0, vI c1, vI c2, vI c3, vR a305, .unset] [(.int (0 : Int32))]) _
                refine Rch.st (fun _ k => XS.istore X333.here hx rfl (hb hby at_195) rfl (l' := #[vI p0, vI p1, vI p2, vI p3, vI p4, vI (4 : Int32), vI c0, vI c1, vI c2, vI c3, vR a305, vI (0 : Int32)]) rfl k) ?_
                show Rch p e below T333 (mkF m 197 #[vI p0, vI p1, vI p2, vI p3, vI p4, vI (4 : Int32), vI c0, vI c1, vI c2, vI c3, vR a305, vI (0 : Int32)] []) _
                have R339 := R0.trans (CHr.ext Ex315 R0.1)
                have hk340 := Nat.le_trans (Nat.zero_le _) Ex315.1
                exact fin _ _ _ _ _ _ X333 e333 N333 Ex315 hS0 hk340 hZ hown R339 V314' (Or.inr ⟨rfl, fun z => q2 (z.2 c2 (by simp))⟩)
            · skip
              obtain rfl : r332 = 0 := v332 q1
              show Rch p e below T332 (mkF m 159 #[vI p0, vI p1, vI p2, vI p3, vI p4, vI (4 : Int32), vI c0, vI c1, vI c2, vI c3, vR a305, .unset] [(.int (0 : Int32))]) _
              refine Rch.st (fun _ k => XS.ifYes X332.here hx rfl (pc0 := 159) (pc' := 194) rfl (hb hby at_159) rfl (by decide : ifCond.holds .eq (0 : Int32) = true) (by decide) (by decide) k) ?_
              refine Rch.st (fun _ k => XS.iconst X332.here hx rfl (hb hby at_194)  k) ?_
              show Rch p e below T332 (mkF m 195 #[vI p0, vI p1, vI p2, vI p3, vI p4, vI (4 : Int32), vI c0, vI c1, vI c2, vI c3, vR a305, .unset] [(.int (0 : Int32))]) _
              refine Rch.st (fun _ k => XS.istore X332.here hx rfl (hb hby at_195) rfl (l' := #[vI p0, vI p1, vI p2, vI p3, vI p4, vI (4 : Int32), vI c0, vI c1, vI c2, vI c3, vR a305, vI (0 : Int32)]) rfl k) ?_
              show Rch p e below T332 (mkF m 197 #[vI p0, vI p1, vI p2, vI p3, vI p4, vI (4 : Int32), vI c0, vI c1, vI c2, vI c3, vR a305, vI (0 : Int32)] []) _
              have R341 := R0.trans (CHr.ext Ex315 R0.1)
              have hk342 := Nat.le_trans (Nat.zero_le _) Ex315.1
              exact fin _ _ _ _ _ _ X332 e332 N332 Ex315 hS0 hk342 hZ hown R341 V314' (Or.inr ⟨rfl, fun z => q1 (z.2 c1 (by simp))⟩)
          · skip
            obtain rfl : r331 = 0 := v331 q0
            show Rch p e below T331 (mkF m 145 #[vI p0, vI p1, vI p2, vI p3, vI p4, vI (4 : Int32), vI c0, vI c1, vI c2, vI c3, vR a305, .unset] [(.int (0 : Int32))]) _
            refine Rch.st (fun _ k => XS.ifYes X331.here hx rfl (pc0 := 145) (pc' := 194) rfl (hb hby at_145) rfl (by decide : ifCond.holds .eq (0 : Int32) = true) (by decide) (by decide) k) ?_
            refine Rch.st (fun _ k => XS.iconst X331.here hx rfl (hb hby at_194)  k) ?_
            show Rch p e below T331 (mkF m 195 #[vI p0, vI p1, vI p2, vI p3, vI p4, vI (4 : Int32), vI c0, vI c1, vI c2, vI c3, vR a305, .unset] [(.int (0 : Int32))]) _
            refine Rch.st (fun _ k => XS.istore X331.here hx rfl (hb hby at_195) rfl (l' := #[vI p0, vI p1, vI p2, vI p3, vI p4, vI (4 : Int32), vI c0, vI c1, vI c2, vI c3, vR a305, vI (0 : Int32)]) rfl k) ?_
            show Rch p e below T331 (mkF m 197 #[vI p0, vI p1, vI p2, vI p3, vI p4, vI (4 : Int32), vI c0, vI c1, vI c2, vI c3, vR a305, vI (0 : Int32)] []) _
            have R343 := R0.trans (CHr.ext Ex315 R0.1)
            have hk344 := Nat.le_trans (Nat.zero_le _) Ex315.1
            exact fin _ _ _ _ _ _ X331 e331 N331 Ex315 hS0 hk344 hZ hown R343 V314' (Or.inr ⟨rfl, fun z => q0 (z.2 c0 (by simp))⟩)
set_option maxRecDepth 65536 in
set_option maxHeartbeats 40000000 in
theorem comes_1 {Post : Tables → Env → Array Value → State → Outcome → State → Prop} (hpost : ∀ tb e args s v u, (limb_1_1.after args s (.returned v) u = true ∧ limb_1_2.after args s (.returned v) u = true ∧ True) → FramedW s (.returned v) u (Jvm.fieldLocs frame_1_writes args s ++ Jvm.arrayLocs frame_1_arrays args s ++ Jvm.staticLocs frame_1_statics s) 24 2176 → Post tb e args s (.returned v) u) :
    ArmFor flags0 classFile x code maxLocals ret World_1 tables_1 room_1 Calls_1 rest_1 Pre_1 Post := by
  intro l hfl _ _ p e ha hc hk s m args below hf hA hF happ hP
  obtain ⟨hcalls, hrest, hpre⟩ := hP
  obtain ⟨-, -, -, hnamed, -, -, -, hat⟩ := (Spec.applies_iff hf).mp happ
  obtain ⟨hg, hn⟩ := and_e (Cond.before_iff.mp (show (Jvm.Cond.and given_1 narrow_1).before args s = true from hpre))
  obtain ⟨g_0, gr_0⟩ := and_e hg
  obtain ⟨g_1, gr_1⟩ := and_e gr_0
  obtain ⟨g_2, gr_2⟩ := and_e gr_1
  obtain ⟨g_3, gr_3⟩ := and_e gr_2
  obtain ⟨g_4, gr_4⟩ := and_e gr_3
  obtain ⟨w0, w1, w2, w3, w4, rfl⟩ : ∃ w0 w1 w2 w3 w4 : Value, args = #[w0, w1, w2, w3, w4] := by
    have hs : args.size = 5 := by simpa [Cond.value, given_1] using g_0
    obtain ⟨L⟩ := args
    match L, hs with
    | [w0, w1, w2, w3, w4], _ => exact ⟨w0, w1, w2, w3, w4, rfl⟩
  have hw := fun d (hd : d ∈ tables_1) => atoms_spec (ws := Jvm.Cond.code x code maxLocals ret :: tables_1) hat d (List.mem_cons_of_mem _ hd)
  obtain ⟨hsets, hown0⟩ := atoms_of _ (rest_1_c_eq ▸ (show rest_1_c.before _ s = true from hrest))
  have hfit : Fit s := fun {y c} hc i hi => by
    obtain ⟨ha, rfl⟩ := Array.getElem?_eq_some_iff.mp hc
    have q := List.all_eq_true.mp ((Array.all_eq_true_iff_forall_mem.mp hF) _ (Array.getElem_mem ha)) i (List.mem_range.mpr hi)
    simpa [Array.getElem?_eq_getElem hi] using q
  obtain ⟨v0, ev0⟩ := is_v g_1
  obtain rfl : w0 = (.int v0) := Option.some.inj ev0
  obtain ⟨v1, ev1⟩ := is_v g_2
  obtain rfl : w1 = (.int v1) := Option.some.inj ev1
  obtain ⟨v2, ev2⟩ := is_v g_3
  obtain rfl : w2 = (.int v2) := Option.some.inj ev2
  obtain ⟨v3, ev3⟩ := is_v g_4
  obtain rfl : w3 = (.int v3) := Option.some.inj ev3
  obtain ⟨v4, ev4⟩ := is_v gr_4
  obtain rfl : w4 = (.int v4) := Option.some.inj ev4
  obtain ⟨i7, e6⟩ := is_v (Cond.before_iff.mp (hsets _ (List.mem_of_getElem? (i := 1) rfl)))
  have n3 := not_v (Cond.before_iff.mp (hsets _ (List.mem_of_getElem? (i := 2) rfl)))
  have S8 : Sta s s.heap "java/lang/String" "COMPACT_STRINGS" "Z" (.int i7) := Sta.start e6 (Or.inl (hsets _ (List.mem_of_getElem? (i := 0) rfl)))
  have c13 : ¬ (i7 = (0 : Int32)) := gotF (Cond.eq_ints e6 (Term.int_eval (0))) n3
  have hcs : Cmp s s.heap := ⟨i7, S8, c13⟩
  have hH : CHv s EL s.vm s.heap := CHv.start (ew hw) (fun q hq => hcalls.1 q hq) (hsets _ (List.mem_of_getElem? (i := 2) rfl)) (wq hw 15 rfl) (wq hw 2 rfl)
  obtain ⟨vf, evf, rvf⟩ := isR_v (Cond.before_iff.mp (hsets _ (List.mem_of_getElem? (i := 8) rfl)))
  have Sf : Sta s s.heap "jdk/internal/util/Preconditions" "SIOOBE_FORMATTER" "Ljava/util/function/BiFunction;" vf := Sta.start evf (Or.inl (hsets _ (List.mem_of_getElem? (i := 7) rfl)))
  have Sa : Sta s s.heap "java/lang/StringUTF16" "$assertionsDisabled" "Z" (.int (1 : Int32)) := Sta.start (eval_int (Cond.before_iff.mp (hsets _ (List.mem_of_getElem? (i := 12) rfl)))) (Or.inl (hsets _ (List.mem_of_getElem? (i := 11) rfl)))
  have Sh : Sta s s.heap "java/lang/StringUTF16" "HI_BYTE_SHIFT" "I" (.int (0 : Int32)) := Sta.start (eval_int (Cond.before_iff.mp (hsets _ (List.mem_of_getElem? (i := 15) rfl)))) (Or.inl (hsets _ (List.mem_of_getElem? (i := 14) rfl)))
  have Sl : Sta s s.heap "java/lang/StringUTF16" "LO_BYTE_SHIFT" "I" (.int (8 : Int32)) := Sta.start (eval_int (Cond.before_iff.mp (hsets _ (List.mem_of_getElem? (i := 18) rfl)))) (Or.inl (hsets _ (List.mem_of_getElem? (i := 17) rfl)))
  have hB : Bg s s.heap vf := ⟨hcs, Sa, Sh, Sl, Sf, rvf⟩
  obtain ⟨n, o, h1, h2, h3, _, L, rfl, ⟨rfl, N⟩, -, hq⟩ := rm_law l s _ hw tables_1 v0 v1 v2 v3 v4 vf s.heap s.heap.size (Nat.le_refl _) hB p e ha hc hk s m _ below hf ((Spec.applies_iff_loose hf).mp happ).1 ⟨rfl, State.Warmed39.refl s, rfl, hH⟩ trivial
  refine ⟨n, _, h1, h2, h3, hpost _ _ _ _ _ _ ⟨Cond.after_iff.mpr rfl, Cond.after_iff.mpr (eq_i res_at (Term.int_eval (1)) rfl), trivial⟩ ⟨hq.1, hq.2.1, hq.2.2.1, (hq.2.2.2.sift fun y hy => Or.inr (N y hy)).mono (by decide) (by decide)⟩⟩
theorem main_1_1 : Claimed_1_1 := comes_1 fun _ _ _ _ _ _ h hF => ⟨h.1, hF⟩
theorem main_1_2 : Claimed_1_2 := comes_1 fun _ _ _ _ _ _ h hF => ⟨h.2.1, hF⟩
end Jvm.Pilot.@@N@@
namespace Jvm.Pilot.@@N@@
open Jvm Jvm.ClassFile Sem Op Lib Jvm.Free Jvm.Stand Jvm.Pilot.@@N@@.Jvm.D
/-! MADE BY PROGRAM (witnessworld.py) out of the Statement's table words and the real class files: 21 classes; the members and pool entries that the words name. The judged class is class 1, her method 1. -/
namespace start1
open Jvm.ClassFile
def u (s : String) : CpInfo := .utf8 (stringToUtf16 s)
/-- a pool by its gaps: so many unusable entries, then the entry; so many at the end -/
def gap : Nat → List CpInfo → List CpInfo
  | 0, r => r
  | n + 1, r => .unusable :: gap n r
def poolList (es : List (Nat × CpInfo)) (last : Nat) : List CpInfo := es.foldr (fun e r => gap e.1 (e.2 :: r)) (gap last [])
def pool (es : List (Nat × CpInfo)) (last : Nat) : Array CpInfo := ⟨poolList es last⟩
def fileOf (pool : Array CpInfo) (this : Nat) (attrs : Array Attribute := #[]) (ms : Array MethodInfo := #[]) (fl : Nat := 33) (sup : Nat := 0) (ifs : Array Nat := #[]) (fds : Array FieldInfo := #[]) : ClassFile where
  minorVersion := 0
  majorVersion := 65
  constantPool := pool
  accessFlags := fl
  thisClass := this
  superClass := sup
  interfaces := ifs
  fields := fds
  methods := ms
  attributes := attrs
def plain (name : String) (sup : Option ClassId) : Class where
  name := name
  kind := .ordinary
  loader := none
  accessFlags := 33
  super := sup
  interfaces := #[]
  cf := none
  fields := #[]
  methods := #[]
  instanceTypes := #[]
  staticTypes := #[]
  resolved := #[]
  callSites := []
  init := .initialized
  statics := none
  mirror := none

def pool0 : Array CpInfo := pool [(5, u "<init>"), (0, u "()V"), (1, .class_ 10), (1, u "java/lang/Object")] 113

def k0c0 : Code := { maxStack := 0, maxLocals := 1, code := object_method_1_code, exceptionTable := #[], attributes := #[] }
def k0m0 : Method := { name := "<init>", desc := "()V", sig := { parameters := [], returnType := none }, accessFlags := 1, code := some k0c0 }
/-- java/lang/Object -/
def k0 : Class := { plain "java/lang/Object" none with
  accessFlags := 33
  interfaces := #[]
  cf := some (fileOf pool0 8 #[] #[{ accessFlags := 1, nameIndex := 5, descriptorIndex := 6, attributes := #[] }] 33 0 #[] #[])
  fields := #[]
  methods := #[k0m0]
  instanceTypes := #[]
  staticTypes := #[]
  resolved := Array.replicate 124 none
  statics := none }

def pool1 : Array CpInfo := pool [(2, .class_ 4), (1, u "java/lang/Object"), (0, u "<init>"), (0, u "()V"), (0, .methodref 8 9), (0, .class_ 10), (0, .nameAndType 11 12), (0, u "com/example/permitd/permitd/http/HeadersIsTokenPinLaw"), (0, u "tok"), (0, u "(C)Z"), (0, .class_ 14), (0, u "java/lang/String"), (0, .methodref 13 16), (0, .nameAndType 5 17), (0, u "([C)V"), (0, .methodref 19 20), (0, .class_ 21), (0, .nameAndType 22 23), (0, u "com/example/permitd/permitd/http/Headers"), (0, u "isToken"), (0, u "(Ljava/lang/String;)Z"), (2, u "law"), (0, u "(IIIII)Z")] 5

def k1m0 : Method := { name := "<init>", desc := "()V", sig := { parameters := [], returnType := none }, accessFlags := 1, code := none }
def k1c1 : Code := { maxStack := 4, maxLocals := 12, code := code, exceptionTable := #[], attributes := #[] }
def k1m1 : Method := { name := "law", desc := "(IIIII)Z", sig := { parameters := [.int, .int, .int, .int, .int], returnType := some .boolean }, accessFlags := 9, code := some k1c1 }
def k1c2 : Code := { maxStack := 2, maxLocals := 2, code := method_3_code, exceptionTable := #[], attributes := #[] }
def k1m2 : Method := { name := "tok", desc := "(C)Z", sig := { parameters := [.char], returnType := some .boolean }, accessFlags := 10, code := some k1c2 }
/-- com/example/permitd/permitd/http/HeadersIsTokenPinLaw -/
def k1 : Class := { plain "com/example/permitd/permitd/http/HeadersIsTokenPinLaw" (some 0) with
  accessFlags := 49
  interfaces := #[]
  cf := some (fileOf pool1 8 #[] #[{ accessFlags := 1, nameIndex := 5, descriptorIndex := 6, attributes := #[] }, { accessFlags := 9, nameIndex := 26, descriptorIndex := 27, attributes := #[] }, { accessFlags := 10, nameIndex := 11, descriptorIndex := 12, attributes := #[] }] 49 2 #[] #[])
  fields := #[]
  methods := #[k1m0, k1m1, k1m2]
  instanceTypes := #[]
  staticTypes := #[]
  resolved := Array.replicate 33 none
  statics := none }

def pool2 : Array CpInfo := pool [(1, .class_ 2), (0, u "java/io/Serializable"), (0, .class_ 4), (0, u "java/lang/Object")] 2

/-- java/io/Serializable -/
def k2 : Class := { plain "java/io/Serializable" (some 0) with
  accessFlags := 1537
  interfaces := #[]
  cf := some (fileOf pool2 1 #[] #[] 1537 3 #[] #[])
  fields := #[]
  methods := #[]
  instanceTypes := #[]
  staticTypes := #[]
  resolved := Array.replicate 7 none
  statics := none }

def pool3 : Array CpInfo := pool [(1, .class_ 2), (0, u "java/lang/Comparable"), (0, .class_ 4), (0, u "java/lang/Object")] 7

/-- java/lang/Comparable -/
def k3 : Class := { plain "java/lang/Comparable" (some 0) with
  accessFlags := 1537
  interfaces := #[]
  cf := some (fileOf pool3 1 #[] #[] 1537 3 #[] #[])
  fields := #[]
  methods := #[]
  instanceTypes := #[]
  staticTypes := #[]
  resolved := Array.replicate 12 none
  statics := none }

def pool4 : Array CpInfo := pool [(2, .class_ 4), (1, u "java/lang/CharSequence"), (42, .class_ 48), (0, u "java/lang/CharSequence$1CodePointIterator"), (10, .class_ 60), (0, u "java/lang/CharSequence$1CharIterator"), (5, .class_ 67), (0, u "java/lang/Object")] 63

/-- java/lang/CharSequence -/
def k4 : Class := { plain "java/lang/CharSequence" (some 0) with
  accessFlags := 1537
  interfaces := #[]
  cf := some (fileOf pool4 2 #[.nestMembers #[47, 59]] #[] 1537 66 #[] #[])
  fields := #[]
  methods := #[]
  instanceTypes := #[]
  staticTypes := #[]
  resolved := Array.replicate 131 none
  statics := none }

def pool5 : Array CpInfo := pool [(1, .class_ 2), (0, u "java/lang/constant/Constable"), (0, .class_ 4), (0, u "java/lang/Object")] 6

/-- java/lang/constant/Constable -/
def k5 : Class := { plain "java/lang/constant/Constable" (some 0) with
  accessFlags := 1537
  interfaces := #[]
  cf := some (fileOf pool5 1 #[] #[] 1537 3 #[] #[])
  fields := #[]
  methods := #[]
  instanceTypes := #[]
  staticTypes := #[]
  resolved := Array.replicate 11 none
  statics := none }

def pool6 : Array CpInfo := pool [(1, .class_ 2), (0, u "java/lang/constant/ConstantDesc"), (0, .class_ 4), (0, u "java/lang/Object")] 32

/-- java/lang/constant/ConstantDesc -/
def k6 : Class := { plain "java/lang/constant/ConstantDesc" (some 0) with
  accessFlags := 1537
  interfaces := #[]
  cf := some (fileOf pool6 1 #[] #[] 1537 3 #[] #[])
  fields := #[]
  methods := #[]
  instanceTypes := #[]
  staticTypes := #[]
  resolved := Array.replicate 37 none
  statics := none }

def pool7 : Array CpInfo := pool [(1, .methodref 2 3), (0, .class_ 4), (0, .nameAndType 5 6), (0, u "java/lang/Object"), (0, u "<init>"), (0, u "()V"), (0, .string 8), (0, u ""), (0, .fieldref 10 11), (0, .class_ 12), (0, .nameAndType 13 14), (0, u "java/lang/String"), (0, u "value"), (0, u "[B"), (0, .fieldref 10 16), (0, .nameAndType 17 18), (0, u "coder"), (0, u "B"), (2, u "hash"), (0, u "I"), (2, u "hashIsZero"), (0, u "Z"), (0, .methodref 10 28), (0, .nameAndType 5 29), (0, u "([CIILjava/lang/Void;)V"), (8, .fieldref 10 39), (0, .nameAndType 40 26), (0, u "COMPACT_STRINGS"), (1, .class_ 44), (1, u "java/lang/StringUTF16"), (0, u "compress"), (1, .methodref 42 48), (0, .nameAndType 49 50), (0, u "coderFromArrayLen"), (0, u "([BI)B"), (56, .class_ 109), (1, u "java/lang/StringLatin1"), (32, u "()Z"), (34, .methodref 42 178), (0, .nameAndType 45 179), (0, u "([CII)[B"), (154, u "()I"), (0, .methodref 10 336), (0, .nameAndType 17 337), (0, u "()B"), (25, u "([BI)C"), (27, u "(II)V"), (35, u "(I)C"), (64, .methodref 10 493), (0, .nameAndType 494 142), (0, u "isLatin1"), (0, .methodref 107 496), (0, .nameAndType 497 363), (0, u "charAt"), (0, .methodref 42 496), (2, u "checkIndex"), (3, .methodref 10 506), (0, .nameAndType 507 334), (0, u "length"), (67, .class_ 576), (0, u "java/lang/CharSequence"), (22, u "CASE_INSENSITIVE_ORDER"), (0, u "Ljava/util/Comparator;"), (32, .methodref 10 634), (0, .nameAndType 635 636), (0, u "indexOf"), (0, u "(II)I"), (0, .methodref 107 638), (0, .nameAndType 635 639), (0, u "([BIII)I"), (52, u "isEmpty"), (72, u "(I)I"), (244, u "([C)V"), (42, .fieldref 1054 1055), (0, .class_ 1056), (0, .nameAndType 1057 1058), (0, u "jdk/internal/util/Preconditions"), (0, u "SIOOBE_FORMATTER"), (0, u "Ljava/util/function/BiFunction;"), (0, .methodref 1054 1060), (0, .nameAndType 501 1061), (0, u "(IILjava/util/function/BiFunction;)I"), (39, u "serialPersistentFields"), (0, u "[Ljava/io/ObjectStreamField;"), (0, .class_ 1104), (0, u "java/lang/String$CaseInsensitiveComparator"), (1, .class_ 1107), (0, u "java/io/Serializable"), (0, .class_ 1109), (0, u "java/lang/Comparable"), (0, .class_ 1111), (0, u "java/lang/constant/Constable"), (0, .class_ 1113), (0, u "java/lang/constant/ConstantDesc"), (2, u "serialVersionUID"), (0, u "J"), (3, u "REPL"), (0, u "C"), (2, u "LATIN1"), (1, u "UTF16")] 323

def k7m0 : Method := { name := "<init>", desc := "()V", sig := { parameters := [], returnType := none }, accessFlags := 1, code := none }
def k7c1 : Code := { maxStack := 5, maxLocals := 2, code := jdk_42_method_3_code, exceptionTable := #[], attributes := #[] }
def k7m1 : Method := { name := "<init>", desc := "([C)V", sig := { parameters := [(.array .char)], returnType := none }, accessFlags := 1, code := some k7c1 }
def k7c2 : Code := { maxStack := 2, maxLocals := 1, code := jdk_42_method_54_code, exceptionTable := #[], attributes := #[] }
def k7m2 : Method := { name := "length", desc := "()I", sig := { parameters := [], returnType := some .int }, accessFlags := 1, code := some k7c2 }
def k7c3 : Code := { maxStack := 1, maxLocals := 1, code := jdk_42_method_55_code, exceptionTable := #[], attributes := #[] }
def k7m3 : Method := { name := "isEmpty", desc := "()Z", sig := { parameters := [], returnType := some .boolean }, accessFlags := 1, code := some k7c3 }
def k7c4 : Code := { maxStack := 2, maxLocals := 2, code := jdk_42_method_56_code, exceptionTable := #[], attributes := #[] }
def k7m4 : Method := { name := "charAt", desc := "(I)C", sig := { parameters := [.int], returnType := some .char }, accessFlags := 1, code := some k7c4 }
def k7c5 : Code := { maxStack := 3, maxLocals := 2, code := jdk_42_method_79_code, exceptionTable := #[], attributes := #[] }
def k7m5 : Method := { name := "indexOf", desc := "(I)I", sig := { parameters := [.int], returnType := some .int }, accessFlags := 1, code := some k7c5 }
def k7c6 : Code := { maxStack := 4, maxLocals := 3, code := jdk_42_method_80_code, exceptionTable := #[], attributes := #[] }
def k7m6 : Method := { name := "indexOf", desc := "(II)I", sig := { parameters := [.int, .int], returnType := some .int }, accessFlags := 1, code := some k7c6 }
def k7c7 : Code := { maxStack := 4, maxLocals := 6, code := jdk_42_method_149_code, exceptionTable := #[], attributes := #[] }
def k7m7 : Method := { name := "<init>", desc := "([CIILjava/lang/Void;)V", sig := { parameters := [(.array .char), .int, .int, (.object "java/lang/Void")], returnType := none }, accessFlags := 2, code := some k7c7 }
def k7c8 : Code := { maxStack := 1, maxLocals := 1, code := jdk_42_method_152_code, exceptionTable := #[], attributes := #[] }
def k7m8 : Method := { name := "coder", desc := "()B", sig := { parameters := [], returnType := some .byte }, accessFlags := 0, code := some k7c8 }
def k7c9 : Code := { maxStack := 1, maxLocals := 1, code := jdk_42_method_154_code, exceptionTable := #[], attributes := #[] }
def k7m9 : Method := { name := "isLatin1", desc := "()Z", sig := { parameters := [], returnType := some .boolean }, accessFlags := 0, code := some k7c9 }
def k7c10 : Code := { maxStack := 3, maxLocals := 2, code := jdk_42_method_155_code, exceptionTable := #[], attributes := #[] }
def k7m10 : Method := { name := "checkIndex", desc := "(II)V", sig := { parameters := [.int, .int], returnType := none }, accessFlags := 8, code := some k7c10 }
/-- java/lang/String -/
def k7 : Class := { plain "java/lang/String" (some 0) with
  accessFlags := 49
  interfaces := #[2, 3, 4, 5, 6]
  cf := some (fileOf pool7 10 #[.nestMembers #[1103]] #[{ accessFlags := 1, nameIndex := 5, descriptorIndex := 6, attributes := #[] }, { accessFlags := 1, nameIndex := 5, descriptorIndex := 1010, attributes := #[] }, { accessFlags := 1, nameIndex := 507, descriptorIndex := 334, attributes := #[] }, { accessFlags := 1, nameIndex := 692, descriptorIndex := 142, attributes := #[] }, { accessFlags := 1, nameIndex := 497, descriptorIndex := 427, attributes := #[] }, { accessFlags := 1, nameIndex := 635, descriptorIndex := 765, attributes := #[] }, { accessFlags := 1, nameIndex := 635, descriptorIndex := 636, attributes := #[] }, { accessFlags := 2, nameIndex := 5, descriptorIndex := 29, attributes := #[] }, { accessFlags := 0, nameIndex := 17, descriptorIndex := 337, attributes := #[] }, { accessFlags := 0, nameIndex := 494, descriptorIndex := 142, attributes := #[] }, { accessFlags := 8, nameIndex := 501, descriptorIndex := 391, attributes := #[] }] 49 2 #[1106, 1108, 575, 1110, 1112] #[{ accessFlags := 18, nameIndex := 13, descriptorIndex := 14, attributes := #[] }, { accessFlags := 18, nameIndex := 17, descriptorIndex := 18, attributes := #[] }, { accessFlags := 2, nameIndex := 21, descriptorIndex := 22, attributes := #[] }, { accessFlags := 2, nameIndex := 25, descriptorIndex := 26, attributes := #[] }, { accessFlags := 26, nameIndex := 1116, descriptorIndex := 1117, attributes := #[] }, { accessFlags := 24, nameIndex := 40, descriptorIndex := 26, attributes := #[] }, { accessFlags := 26, nameIndex := 1101, descriptorIndex := 1102, attributes := #[] }, { accessFlags := 26, nameIndex := 1121, descriptorIndex := 1122, attributes := #[] }, { accessFlags := 25, nameIndex := 599, descriptorIndex := 600, attributes := #[] }, { accessFlags := 24, nameIndex := 1125, descriptorIndex := 18, attributes := #[] }, { accessFlags := 24, nameIndex := 1127, descriptorIndex := 18, attributes := #[] }])
  fields := #[{ name := "value", type := (.array .byte), accessFlags := 18, slot := 0, constantValue := 0 }, { name := "coder", type := .byte, accessFlags := 18, slot := 1, constantValue := 0 }, { name := "hash", type := .int, accessFlags := 2, slot := 2, constantValue := 0 }, { name := "hashIsZero", type := .boolean, accessFlags := 2, slot := 3, constantValue := 0 }, { name := "serialVersionUID", type := .long, accessFlags := 26, slot := 0, constantValue := 0 }, { name := "COMPACT_STRINGS", type := .boolean, accessFlags := 24, slot := 1, constantValue := 0 }, { name := "serialPersistentFields", type := (.array (.object "java/io/ObjectStreamField")), accessFlags := 26, slot := 2, constantValue := 0 }, { name := "REPL", type := .char, accessFlags := 26, slot := 3, constantValue := 0 }, { name := "CASE_INSENSITIVE_ORDER", type := (.object "java/util/Comparator"), accessFlags := 25, slot := 4, constantValue := 0 }, { name := "LATIN1", type := .byte, accessFlags := 24, slot := 5, constantValue := 0 }, { name := "UTF16", type := .byte, accessFlags := 24, slot := 6, constantValue := 0 }]
  methods := #[k7m0, k7m1, k7m2, k7m3, k7m4, k7m5, k7m6, k7m7, k7m8, k7m9, k7m10]
  instanceTypes := #[(.array .byte), .byte, .int, .boolean]
  staticTypes := #[.long, .boolean, (.array (.object "java/io/ObjectStreamField")), .char, (.object "java/util/Comparator"), .byte, .byte]
  resolved := Array.replicate 1451 none
  statics := some 0 }

def pool8 : Array CpInfo := pool [(2, .class_ 4), (1, u "java/lang/Object"), (0, u "<init>"), (0, u "()V"), (3, .class_ 12), (1, u "java/lang/String"), (6, .class_ 21), (1, u "com/example/permitd/permitd/http/Headers"), (0, u "fields"), (0, u "Ljava/util/Map;"), (0, .methodref 10 25), (0, .nameAndType 26 27), (0, u "isEmpty"), (0, u "()Z"), (0, .methodref 10 29), (0, .nameAndType 30 31), (0, u "length"), (0, u "()I"), (0, .methodref 10 33), (0, .nameAndType 34 35), (0, u "charAt"), (0, u "(I)C"), (0, .string 37), (0, u "!#$%&'*+-.^_`|~"), (0, .methodref 10 39), (0, .nameAndType 40 41), (0, u "indexOf"), (0, u "(I)I"), (90, u "TOKEN_SYMBOLS"), (0, u "Ljava/lang/String;"), (5, u "isToken"), (0, u "(Ljava/lang/String;)Z")] 49

def k8m0 : Method := { name := "<init>", desc := "()V", sig := { parameters := [], returnType := none }, accessFlags := 0, code := none }
def k8c1 : Code := { maxStack := 2, maxLocals := 4, code := prog_21_method_2_code, exceptionTable := #[], attributes := #[] }
def k8m1 : Method := { name := "isToken", desc := "(Ljava/lang/String;)Z", sig := { parameters := [(.object "java/lang/String")], returnType := some .boolean }, accessFlags := 9, code := some k8c1 }
/-- com/example/permitd/permitd/http/Headers -/
def k8 : Class := { plain "com/example/permitd/permitd/http/Headers" (some 0) with
  accessFlags := 49
  interfaces := #[]
  cf := some (fileOf pool8 19 #[] #[{ accessFlags := 0, nameIndex := 5, descriptorIndex := 6, attributes := #[] }, { accessFlags := 9, nameIndex := 139, descriptorIndex := 140, attributes := #[] }] 49 2 #[] #[{ accessFlags := 26, nameIndex := 132, descriptorIndex := 133, attributes := #[] }, { accessFlags := 18, nameIndex := 22, descriptorIndex := 23, attributes := #[] }])
  fields := #[{ name := "TOKEN_SYMBOLS", type := (.object "java/lang/String"), accessFlags := 26, slot := 0, constantValue := 0 }, { name := "fields", type := (.object "java/util/Map"), accessFlags := 18, slot := 0, constantValue := 0 }]
  methods := #[k8m0, k8m1]
  instanceTypes := #[(.object "java/util/Map")]
  staticTypes := #[(.object "java/lang/String")]
  resolved := Array.replicate 190 none
  statics := none }

def pool9 : Array CpInfo := pool [(3, .class_ 4), (0, u "java/lang/String"), (1, .class_ 8), (1, u "java/lang/Object"), (0, u "<init>"), (0, u "()V"), (0, .methodref 12 13), (0, .class_ 14), (0, .nameAndType 15 16), (0, u "java/lang/StringUTF16"), (0, u "newBytesLength"), (0, u "(I)I"), (3, .integer 1073741823), (23, .fieldref 12 45), (0, .nameAndType 46 47), (0, u "$assertionsDisabled"), (0, u "Z"), (0, .methodref 12 49), (0, .nameAndType 50 51), (0, u "length"), (0, u "([B)I"), (7, .fieldref 12 60), (0, .nameAndType 61 62), (0, u "HI_BYTE_SHIFT"), (0, u "I"), (0, .fieldref 12 64), (0, .nameAndType 65 62), (0, u "LO_BYTE_SHIFT"), (1, .methodref 12 68), (0, .nameAndType 69 70), (0, u "checkIndex"), (0, u "(I[B)V"), (0, .methodref 12 72), (0, .nameAndType 73 74), (0, u "getChar"), (0, u "([BI)C"), (32, .methodref 12 108), (0, .nameAndType 109 110), (0, u "newBytesFor"), (0, u "(I)[B"), (0, .methodref 12 112), (0, .nameAndType 113 114), (0, u "putChar"), (0, u "([BII)V"), (0, .methodref 12 116), (0, .nameAndType 117 118), (0, u "compress"), (0, u "([CI[BII)I"), (0, .methodref 12 120), (0, .nameAndType 121 122), (0, u "toBytes"), (0, u "([CII)[B"), (138, u "coderFromArrayLen"), (0, u "([BI)B"), (106, .class_ 371), (1, u "java/lang/StringUTF16$LinesSpliterator"), (20, u "charAt"), (21, .methodref 3 415), (0, .nameAndType 69 416), (0, u "(II)V"), (13, u "MAX_LENGTH"), (196, .class_ 628), (0, u "java/lang/StringUTF16$CodePointsSpliterator"), (0, .class_ 630), (0, u "java/lang/StringUTF16$CharsSpliterator")] 4

def k9m0 : Method := { name := "<init>", desc := "()V", sig := { parameters := [], returnType := none }, accessFlags := 0, code := none }
def k9c1 : Code := { maxStack := 1, maxLocals := 1, code := jdk_52_method_2_code, exceptionTable := #[], attributes := #[] }
def k9m1 : Method := { name := "newBytesFor", desc := "(I)[B", sig := { parameters := [.int], returnType := some (.array .byte) }, accessFlags := 9, code := some k9c1 }
def k9c2 : Code := { maxStack := 4, maxLocals := 1, code := jdk_52_method_3_code, exceptionTable := #[], attributes := #[] }
def k9m2 : Method := { name := "newBytesLength", desc := "(I)I", sig := { parameters := [.int], returnType := some .int }, accessFlags := 9, code := some k9c2 }
def k9c3 : Code := { maxStack := 4, maxLocals := 3, code := jdk_52_method_4_code, exceptionTable := #[], attributes := #[] }
def k9m3 : Method := { name := "putChar", desc := "([BII)V", sig := { parameters := [(.array .byte), .int, .int], returnType := none }, accessFlags := 8, code := some k9c3 }
def k9c4 : Code := { maxStack := 3, maxLocals := 2, code := jdk_52_method_5_code, exceptionTable := #[], attributes := #[] }
def k9m4 : Method := { name := "getChar", desc := "([BI)C", sig := { parameters := [(.array .byte), .int], returnType := some .char }, accessFlags := 8, code := some k9c4 }
def k9c5 : Code := { maxStack := 2, maxLocals := 1, code := jdk_52_method_6_code, exceptionTable := #[], attributes := #[] }
def k9m5 : Method := { name := "length", desc := "([B)I", sig := { parameters := [(.array .byte)], returnType := some .int }, accessFlags := 9, code := some k9c5 }
def k9c6 : Code := { maxStack := 4, maxLocals := 5, code := jdk_52_method_14_code, exceptionTable := #[], attributes := #[] }
def k9m6 : Method := { name := "toBytes", desc := "([CII)[B", sig := { parameters := [(.array .char), .int, .int], returnType := some (.array .byte) }, accessFlags := 9, code := some k9c6 }
def k9c7 : Code := { maxStack := 2, maxLocals := 2, code := jdk_52_method_15_code, exceptionTable := #[], attributes := #[] }
def k9m7 : Method := { name := "coderFromArrayLen", desc := "([BI)B", sig := { parameters := [(.array .byte), .int], returnType := some .byte }, accessFlags := 8, code := some k9c7 }
def k9c8 : Code := { maxStack := 5, maxLocals := 6, code := jdk_52_method_16_code, exceptionTable := #[], attributes := #[] }
def k9m8 : Method := { name := "compress", desc := "([CII)[B", sig := { parameters := [(.array .char), .int, .int], returnType := some (.array .byte) }, accessFlags := 9, code := some k9c8 }
def k9c9 : Code := { maxStack := 3, maxLocals := 7, code := jdk_52_method_21_code, exceptionTable := #[], attributes := #[] }
def k9m9 : Method := { name := "compress", desc := "([CI[BII)I", sig := { parameters := [(.array .char), .int, (.array .byte), .int, .int], returnType := some .int }, accessFlags := 9, code := some k9c9 }
def k9c10 : Code := { maxStack := 2, maxLocals := 2, code := jdk_52_method_83_code, exceptionTable := #[], attributes := #[] }
def k9m10 : Method := { name := "charAt", desc := "([BI)C", sig := { parameters := [(.array .byte), .int], returnType := some .char }, accessFlags := 9, code := some k9c10 }
def k9c11 : Code := { maxStack := 2, maxLocals := 2, code := jdk_52_method_91_code, exceptionTable := #[], attributes := #[] }
def k9m11 : Method := { name := "checkIndex", desc := "(I[B)V", sig := { parameters := [.int, (.array .byte)], returnType := none }, accessFlags := 9, code := some k9c11 }
/-- java/lang/StringUTF16 -/
def k9 : Class := { plain "java/lang/StringUTF16" (some 0) with
  accessFlags := 48
  interfaces := #[]
  cf := some (fileOf pool9 12 #[.nestMembers #[627, 629, 369]] #[{ accessFlags := 0, nameIndex := 9, descriptorIndex := 10, attributes := #[] }, { accessFlags := 9, nameIndex := 109, descriptorIndex := 110, attributes := #[] }, { accessFlags := 9, nameIndex := 15, descriptorIndex := 16, attributes := #[] }, { accessFlags := 8, nameIndex := 113, descriptorIndex := 114, attributes := #[] }, { accessFlags := 8, nameIndex := 73, descriptorIndex := 74, attributes := #[] }, { accessFlags := 9, nameIndex := 50, descriptorIndex := 51, attributes := #[] }, { accessFlags := 9, nameIndex := 121, descriptorIndex := 122, attributes := #[] }, { accessFlags := 8, nameIndex := 261, descriptorIndex := 262, attributes := #[] }, { accessFlags := 9, nameIndex := 117, descriptorIndex := 122, attributes := #[] }, { accessFlags := 9, nameIndex := 117, descriptorIndex := 118, attributes := #[] }, { accessFlags := 9, nameIndex := 392, descriptorIndex := 74, attributes := #[] }, { accessFlags := 9, nameIndex := 69, descriptorIndex := 70, attributes := #[] }] 48 6 #[] #[{ accessFlags := 26, nameIndex := 61, descriptorIndex := 62, attributes := #[] }, { accessFlags := 26, nameIndex := 65, descriptorIndex := 62, attributes := #[] }, { accessFlags := 24, nameIndex := 430, descriptorIndex := 62, attributes := #[] }, { accessFlags := 4120, nameIndex := 46, descriptorIndex := 47, attributes := #[] }])
  fields := #[{ name := "HI_BYTE_SHIFT", type := .int, accessFlags := 26, slot := 0, constantValue := 0 }, { name := "LO_BYTE_SHIFT", type := .int, accessFlags := 26, slot := 1, constantValue := 0 }, { name := "MAX_LENGTH", type := .int, accessFlags := 24, slot := 2, constantValue := 0 }, { name := "$assertionsDisabled", type := .boolean, accessFlags := 4120, slot := 3, constantValue := 0 }]
  methods := #[k9m0, k9m1, k9m2, k9m3, k9m4, k9m5, k9m6, k9m7, k9m8, k9m9, k9m10, k9m11]
  instanceTypes := #[]
  staticTypes := #[.int, .int, .int, .boolean]
  resolved := Array.replicate 635 none
  statics := some 1 }

def pool10 : Array CpInfo := pool [(1, .class_ 2), (0, u "java/lang/String"), (1, .class_ 6), (1, u "java/lang/Object"), (0, u "<init>"), (0, u "()V"), (0, .methodref 1 10), (0, .nameAndType 11 12), (0, u "checkIndex"), (0, u "(II)V"), (1, .class_ 16), (1, u "java/lang/StringLatin1"), (21, .methodref 39 40), (0, .class_ 41), (0, .nameAndType 42 43), (0, u "java/lang/Math"), (0, u "min"), (0, u "(II)I"), (9, u "([BI)C"), (34, .methodref 14 89), (0, .nameAndType 90 91), (0, u "canEncode"), (0, u "(I)Z"), (0, .methodref 39 93), (0, .nameAndType 94 43), (0, u "max"), (0, .methodref 14 96), (0, .nameAndType 97 98), (0, u "indexOfChar"), (0, u "([BIII)I"), (2, u "indexOf"), (19, u "$assertionsDisabled"), (0, u "Z"), (98, .class_ 223), (1, u "java/lang/StringLatin1$LinesSpliterator"), (28, u "charAt"), (137, .class_ 391), (0, u "java/lang/StringLatin1$CharsSpliterator")] 3

def k10m0 : Method := { name := "<init>", desc := "()V", sig := { parameters := [], returnType := none }, accessFlags := 0, code := none }
def k10c1 : Code := { maxStack := 2, maxLocals := 2, code := jdk_43_method_2_code, exceptionTable := #[], attributes := #[] }
def k10m1 : Method := { name := "charAt", desc := "([BI)C", sig := { parameters := [(.array .byte), .int], returnType := some .char }, accessFlags := 9, code := some k10c1 }
def k10c2 : Code := { maxStack := 2, maxLocals := 1, code := jdk_43_method_4_code, exceptionTable := #[], attributes := #[] }
def k10m2 : Method := { name := "canEncode", desc := "(I)Z", sig := { parameters := [.int], returnType := some .boolean }, accessFlags := 9, code := some k10c2 }
def k10c3 : Code := { maxStack := 4, maxLocals := 4, code := jdk_43_method_22_code, exceptionTable := #[], attributes := #[] }
def k10m3 : Method := { name := "indexOf", desc := "([BIII)I", sig := { parameters := [(.array .byte), .int, .int, .int], returnType := some .int }, accessFlags := 9, code := some k10c3 }
def k10c4 : Code := { maxStack := 2, maxLocals := 6, code := jdk_43_method_23_code, exceptionTable := #[], attributes := #[] }
def k10m4 : Method := { name := "indexOfChar", desc := "([BIII)I", sig := { parameters := [(.array .byte), .int, .int, .int], returnType := some .int }, accessFlags := 10, code := some k10c4 }
/-- java/lang/StringLatin1 -/
def k10 : Class := { plain "java/lang/StringLatin1" (some 0) with
  accessFlags := 48
  interfaces := #[]
  cf := some (fileOf pool10 14 #[.nestMembers #[390, 221]] #[{ accessFlags := 0, nameIndex := 7, descriptorIndex := 8, attributes := #[] }, { accessFlags := 9, nameIndex := 252, descriptorIndex := 53, attributes := #[] }, { accessFlags := 9, nameIndex := 90, descriptorIndex := 91, attributes := #[] }, { accessFlags := 9, nameIndex := 101, descriptorIndex := 98, attributes := #[] }, { accessFlags := 10, nameIndex := 97, descriptorIndex := 98, attributes := #[] }] 48 4 #[] #[{ accessFlags := 4120, nameIndex := 121, descriptorIndex := 122, attributes := #[] }])
  fields := #[{ name := "$assertionsDisabled", type := .boolean, accessFlags := 4120, slot := 0, constantValue := 0 }]
  methods := #[k10m0, k10m1, k10m2, k10m3, k10m4]
  instanceTypes := #[]
  staticTypes := #[.boolean]
  resolved := Array.replicate 395 none
  statics := none }

def pool11 : Array CpInfo := pool [(2, .class_ 4), (1, u "java/lang/Object"), (0, u "<init>"), (0, u "()V"), (17, .class_ 26), (1, u "jdk/internal/util/Preconditions"), (6, u "checkIndex"), (21, .class_ 56), (0, u "jdk/internal/util/Preconditions$4"), (57, .class_ 115), (0, u "jdk/internal/util/Preconditions$1"), (7, u "SIOOBE_FORMATTER"), (0, u "Ljava/util/function/BiFunction;"), (0, .class_ 126), (0, u "jdk/internal/util/Preconditions$2"), (3, u "AIOOBE_FORMATTER"), (0, .class_ 132), (0, u "jdk/internal/util/Preconditions$3"), (3, u "IOOBE_FORMATTER"), (41, u "(IILjava/util/function/BiFunction;)I")] 15

def k11m0 : Method := { name := "<init>", desc := "()V", sig := { parameters := [], returnType := none }, accessFlags := 1, code := none }
def k11c1 : Code := { maxStack := 3, maxLocals := 3, code := jdk_41_method_11_code, exceptionTable := #[], attributes := #[] }
def k11m1 : Method := { name := "checkIndex", desc := "(IILjava/util/function/BiFunction;)I", sig := { parameters := [.int, .int, (.object "java/util/function/BiFunction")], returnType := some .int }, accessFlags := 9, code := some k11c1 }
/-- jdk/internal/util/Preconditions -/
def k11 : Class := { plain "jdk/internal/util/Preconditions" (some 0) with
  accessFlags := 33
  interfaces := #[]
  cf := some (fileOf pool11 24 #[.nestMembers #[55, 131, 125, 114]] #[{ accessFlags := 1, nameIndex := 5, descriptorIndex := 6, attributes := #[] }, { accessFlags := 9, nameIndex := 33, descriptorIndex := 178, attributes := #[] }] 33 2 #[] #[{ accessFlags := 25, nameIndex := 123, descriptorIndex := 124, attributes := #[] }, { accessFlags := 25, nameIndex := 130, descriptorIndex := 124, attributes := #[] }, { accessFlags := 25, nameIndex := 136, descriptorIndex := 124, attributes := #[] }])
  fields := #[{ name := "SIOOBE_FORMATTER", type := (.object "java/util/function/BiFunction"), accessFlags := 25, slot := 0, constantValue := 0 }, { name := "AIOOBE_FORMATTER", type := (.object "java/util/function/BiFunction"), accessFlags := 25, slot := 1, constantValue := 0 }, { name := "IOOBE_FORMATTER", type := (.object "java/util/function/BiFunction"), accessFlags := 25, slot := 2, constantValue := 0 }]
  methods := #[k11m0, k11m1]
  instanceTypes := #[]
  staticTypes := #[(.object "java/util/function/BiFunction"), (.object "java/util/function/BiFunction"), (.object "java/util/function/BiFunction")]
  resolved := Array.replicate 194 none
  statics := some 2 }

def pool12 : Array CpInfo := pool [(1, .class_ 2), (0, u "java/lang/Math"), (1, .class_ 6), (1, u "java/lang/Object"), (0, u "<init>"), (0, u "()V"), (89, .class_ 100), (1, u "java/lang/Math$RandomNumberGeneratorHolder"), (71, u "negativeZeroFloatBits"), (0, u "J"), (2, u "negativeZeroDoubleBits"), (21, u "max"), (2, u "min"), (43, u "$assertionsDisabled"), (0, u "Z"), (88, u "(II)I"), (2, u "twoToTheDoubleScaleDown"), (0, u "D"), (4, u "twoToTheDoubleScaleUp"), (9, u "E"), (3, u "PI"), (2, u "TAU"), (2, u "DEGREES_TO_RADIANS"), (0, u "RADIANS_TO_DEGREES")] 94

def k12m0 : Method := { name := "<init>", desc := "()V", sig := { parameters := [], returnType := none }, accessFlags := 2, code := none }
def k12c1 : Code := { maxStack := 2, maxLocals := 2, code := jdk_29_method_65_code, exceptionTable := #[], attributes := #[] }
def k12m1 : Method := { name := "max", desc := "(II)I", sig := { parameters := [.int, .int], returnType := some .int }, accessFlags := 9, code := some k12c1 }
def k12c2 : Code := { maxStack := 2, maxLocals := 2, code := jdk_29_method_69_code, exceptionTable := #[], attributes := #[] }
def k12m2 : Method := { name := "min", desc := "(II)I", sig := { parameters := [.int, .int], returnType := some .int }, accessFlags := 9, code := some k12c2 }
/-- java/lang/Math -/
def k12 : Class := { plain "java/lang/Math" (some 0) with
  accessFlags := 49
  interfaces := #[]
  cf := some (fileOf pool12 1 #[.nestMembers #[98]] #[{ accessFlags := 2, nameIndex := 7, descriptorIndex := 8, attributes := #[] }, { accessFlags := 9, nameIndex := 198, descriptorIndex := 335, attributes := #[] }, { accessFlags := 9, nameIndex := 201, descriptorIndex := 335, attributes := #[] }] 49 4 #[] #[{ accessFlags := 25, nameIndex := 354, descriptorIndex := 339, attributes := #[] }, { accessFlags := 25, nameIndex := 358, descriptorIndex := 339, attributes := #[] }, { accessFlags := 25, nameIndex := 361, descriptorIndex := 339, attributes := #[] }, { accessFlags := 26, nameIndex := 364, descriptorIndex := 339, attributes := #[] }, { accessFlags := 26, nameIndex := 365, descriptorIndex := 339, attributes := #[] }, { accessFlags := 26, nameIndex := 172, descriptorIndex := 173, attributes := #[] }, { accessFlags := 26, nameIndex := 176, descriptorIndex := 173, attributes := #[] }, { accessFlags := 8, nameIndex := 344, descriptorIndex := 339, attributes := #[] }, { accessFlags := 8, nameIndex := 338, descriptorIndex := 339, attributes := #[] }, { accessFlags := 4120, nameIndex := 245, descriptorIndex := 246, attributes := #[] }])
  fields := #[{ name := "E", type := .double, accessFlags := 25, slot := 0, constantValue := 0 }, { name := "PI", type := .double, accessFlags := 25, slot := 1, constantValue := 0 }, { name := "TAU", type := .double, accessFlags := 25, slot := 2, constantValue := 0 }, { name := "DEGREES_TO_RADIANS", type := .double, accessFlags := 26, slot := 3, constantValue := 0 }, { name := "RADIANS_TO_DEGREES", type := .double, accessFlags := 26, slot := 4, constantValue := 0 }, { name := "negativeZeroFloatBits", type := .long, accessFlags := 26, slot := 5, constantValue := 0 }, { name := "negativeZeroDoubleBits", type := .long, accessFlags := 26, slot := 6, constantValue := 0 }, { name := "twoToTheDoubleScaleUp", type := .double, accessFlags := 8, slot := 7, constantValue := 0 }, { name := "twoToTheDoubleScaleDown", type := .double, accessFlags := 8, slot := 8, constantValue := 0 }, { name := "$assertionsDisabled", type := .boolean, accessFlags := 4120, slot := 9, constantValue := 0 }]
  methods := #[k12m0, k12m1, k12m2]
  instanceTypes := #[]
  staticTypes := #[.double, .double, .double, .double, .double, .long, .long, .double, .double, .boolean]
  resolved := Array.replicate 460 none
  statics := none }

def pool13 : Array CpInfo := pool [(9, u "<init>"), (6, .class_ 18), (1, u "java/lang/Object"), (0, u "()V"), (1, .class_ 23), (1, u "jdk/internal/util/ArraysSupport"), (0, u "LOG2_ARRAY_LONG_INDEX_SCALE"), (0, u "I"), (2, u "U"), (0, u "Ljdk/internal/misc/Unsafe;"), (8, u "BIG_ENDIAN"), (0, u "Z"), (8, u "LOG2_BYTE_BIT_SIZE"), (4, u "LOG2_ARRAY_INT_INDEX_SCALE"), (54, u "JLA"), (0, u "Ljdk/internal/access/JavaLangAccess;"), (11, u "LOG2_ARRAY_BOOLEAN_INDEX_SCALE"), (9, u "LOG2_ARRAY_BYTE_INDEX_SCALE"), (5, u "LOG2_ARRAY_CHAR_INDEX_SCALE"), (5, u "LOG2_ARRAY_SHORT_INDEX_SCALE"), (18, u "LOG2_ARRAY_FLOAT_INDEX_SCALE"), (24, u "LOG2_ARRAY_DOUBLE_INDEX_SCALE"), (89, u "T_BOOLEAN"), (2, u "T_CHAR"), (1, u "T_FLOAT"), (1, u "T_DOUBLE"), (1, u "T_BYTE"), (1, u "T_SHORT"), (1, u "T_INT"), (1, u "T_LONG"), (1, u "SOFT_MAX_ARRAY_LENGTH")] 83

def k13m0 : Method := { name := "<init>", desc := "()V", sig := { parameters := [], returnType := none }, accessFlags := 2, code := none }
/-- jdk/internal/util/ArraysSupport -/
def k13 : Class := { plain "jdk/internal/util/ArraysSupport" (some 0) with
  accessFlags := 33
  interfaces := #[]
  cf := some (fileOf pool13 21 #[] #[{ accessFlags := 2, nameIndex := 9, descriptorIndex := 19, attributes := #[] }] 33 16 #[] #[{ accessFlags := 24, nameIndex := 28, descriptorIndex := 29, attributes := #[] }, { accessFlags := 26, nameIndex := 38, descriptorIndex := 39, attributes := #[] }, { accessFlags := 25, nameIndex := 121, descriptorIndex := 25, attributes := #[] }, { accessFlags := 25, nameIndex := 131, descriptorIndex := 25, attributes := #[] }, { accessFlags := 25, nameIndex := 137, descriptorIndex := 25, attributes := #[] }, { accessFlags := 25, nameIndex := 143, descriptorIndex := 25, attributes := #[] }, { accessFlags := 25, nameIndex := 53, descriptorIndex := 25, attributes := #[] }, { accessFlags := 25, nameIndex := 24, descriptorIndex := 25, attributes := #[] }, { accessFlags := 25, nameIndex := 162, descriptorIndex := 25, attributes := #[] }, { accessFlags := 25, nameIndex := 187, descriptorIndex := 25, attributes := #[] }, { accessFlags := 26, nameIndex := 48, descriptorIndex := 25, attributes := #[] }, { accessFlags := 25, nameIndex := 277, descriptorIndex := 25, attributes := #[] }, { accessFlags := 25, nameIndex := 280, descriptorIndex := 25, attributes := #[] }, { accessFlags := 25, nameIndex := 282, descriptorIndex := 25, attributes := #[] }, { accessFlags := 25, nameIndex := 284, descriptorIndex := 25, attributes := #[] }, { accessFlags := 25, nameIndex := 286, descriptorIndex := 25, attributes := #[] }, { accessFlags := 25, nameIndex := 288, descriptorIndex := 25, attributes := #[] }, { accessFlags := 25, nameIndex := 290, descriptorIndex := 25, attributes := #[] }, { accessFlags := 25, nameIndex := 292, descriptorIndex := 25, attributes := #[] }, { accessFlags := 26, nameIndex := 108, descriptorIndex := 109, attributes := #[] }, { accessFlags := 25, nameIndex := 294, descriptorIndex := 25, attributes := #[] }])
  fields := #[{ name := "U", type := (.object "jdk/internal/misc/Unsafe"), accessFlags := 24, slot := 0, constantValue := 0 }, { name := "BIG_ENDIAN", type := .boolean, accessFlags := 26, slot := 1, constantValue := 0 }, { name := "LOG2_ARRAY_BOOLEAN_INDEX_SCALE", type := .int, accessFlags := 25, slot := 2, constantValue := 0 }, { name := "LOG2_ARRAY_BYTE_INDEX_SCALE", type := .int, accessFlags := 25, slot := 3, constantValue := 0 }, { name := "LOG2_ARRAY_CHAR_INDEX_SCALE", type := .int, accessFlags := 25, slot := 4, constantValue := 0 }, { name := "LOG2_ARRAY_SHORT_INDEX_SCALE", type := .int, accessFlags := 25, slot := 5, constantValue := 0 }, { name := "LOG2_ARRAY_INT_INDEX_SCALE", type := .int, accessFlags := 25, slot := 6, constantValue := 0 }, { name := "LOG2_ARRAY_LONG_INDEX_SCALE", type := .int, accessFlags := 25, slot := 7, constantValue := 0 }, { name := "LOG2_ARRAY_FLOAT_INDEX_SCALE", type := .int, accessFlags := 25, slot := 8, constantValue := 0 }, { name := "LOG2_ARRAY_DOUBLE_INDEX_SCALE", type := .int, accessFlags := 25, slot := 9, constantValue := 0 }, { name := "LOG2_BYTE_BIT_SIZE", type := .int, accessFlags := 26, slot := 10, constantValue := 0 }, { name := "T_BOOLEAN", type := .int, accessFlags := 25, slot := 11, constantValue := 0 }, { name := "T_CHAR", type := .int, accessFlags := 25, slot := 12, constantValue := 0 }, { name := "T_FLOAT", type := .int, accessFlags := 25, slot := 13, constantValue := 0 }, { name := "T_DOUBLE", type := .int, accessFlags := 25, slot := 14, constantValue := 0 }, { name := "T_BYTE", type := .int, accessFlags := 25, slot := 15, constantValue := 0 }, { name := "T_SHORT", type := .int, accessFlags := 25, slot := 16, constantValue := 0 }, { name := "T_INT", type := .int, accessFlags := 25, slot := 17, constantValue := 0 }, { name := "T_LONG", type := .int, accessFlags := 25, slot := 18, constantValue := 0 }, { name := "JLA", type := (.object "jdk/internal/access/JavaLangAccess"), accessFlags := 26, slot := 19, constantValue := 0 }, { name := "SOFT_MAX_ARRAY_LENGTH", type := .int, accessFlags := 25, slot := 20, constantValue := 0 }]
  methods := #[k13m0]
  instanceTypes := #[]
  staticTypes := #[(.object "jdk/internal/misc/Unsafe"), .boolean, .int, .int, .int, .int, .int, .int, .int, .int, .int, .int, .int, .int, .int, .int, .int, .int, .int, (.object "jdk/internal/access/JavaLangAccess"), .int]
  resolved := Array.replicate 378 none
  statics := none }

def pool14 : Array CpInfo := pool [(1, u "java/lang/Cloneable"), (0, .class_ 1), (0, u "java/lang/Object"), (0, .class_ 3)] 3

/-- java/lang/Cloneable -/
def k14 : Class := { plain "java/lang/Cloneable" (some 0) with
  accessFlags := 1537
  interfaces := #[]
  cf := some (fileOf pool14 2 #[] #[] 1537 4 #[] #[])
  fields := #[]
  methods := #[]
  instanceTypes := #[]
  staticTypes := #[]
  resolved := Array.replicate 8 none
  statics := none }

/-- the primitive byte -/
def k15 : Class := { plain "byte" none with kind := .primitive 'B', accessFlags := 0x411 }
/-- [B -/
def k16 : Class := { plain "[B" (some 0) with kind := .array 15 .byte, interfaces := #[14, 2], accessFlags := 1041 }

/-- the primitive char -/
def k17 : Class := { plain "char" none with kind := .primitive 'C', accessFlags := 0x411 }
/-- [C -/
def k18 : Class := { plain "[C" (some 0) with kind := .array 17 .char, interfaces := #[14, 2], accessFlags := 1041 }

/-- the primitive int -/
def k19 : Class := { plain "int" none with kind := .primitive 'I', accessFlags := 0x411 }
/-- [I -/
def k20 : Class := { plain "[I" (some 0) with kind := .array 19 .int, interfaces := #[14, 2], accessFlags := 1041 }

def heap : Heap := #[{ cls := 7, slots := #[.long 0, .int 1, .null, .int 0, .null, .int 0, .int 0], vm := .statics 7 },
  { cls := 9, slots := #[.int 0, .int 8, .int 0, .int 1], vm := .statics 9 },
  { cls := 11, slots := #[.null, .null, .null], vm := .statics 11 }]
def classes : Array Class := #[k0, k1, k2, k3, k4, k5, k6, k7, k8, k9, k10, k11, k12, k13, k14, k15, k16, k17, k18, k19, k20]
def interned : List (Array UInt16 × Addr) := []
def slotsUsed : Nat := 14
def theMethod : MethodId := ⟨1, 1⟩
def args0 : Array Value := #[.int 5, .int 1, .int 2, .int 3, .int 4]
def aboutOver (below : List Frame) : State where
  vm := { classes := classes, interned := interned.toArray }
  heap := heap
  slotsUsed := slotsUsed
  threads := #[{ frames := .invoking theMethod args0 :: below }]
def below0 : List Frame := [.native { method := ⟨0, 0⟩, args := #[] }]
def about1 : State := aboutOver below0
def p0 : Program := .bare "" "" ""
def e0 : Env := launch0.env 0 0 0
theorem w_frames : about1.frames = Frame.invoking theMethod args0 :: below0 := rfl
set_option maxRecDepth 65536 in
theorem w_args : argsFit about1.vm theMethod args0 = true := by decide +kernel
set_option maxRecDepth 65536 in
theorem w_heap : heapFits about1 = true := by decide +kernel
set_option maxRecDepth 65536 in
theorem w_runnable : about1.curStatus? = some .runnable := by decide +kernel
set_option maxRecDepth 65536 in
theorem w_alone : about1.alone = true := by decide +kernel
set_option maxRecDepth 65536 in
theorem w_named : about1.methodNamed? x = some theMethod := by decide +kernel
set_option maxRecDepth 65536 in
theorem w_hears : about1.hears theMethod below0 = true := by decide +kernel
set_option maxRecDepth 65536 in
theorem w_ripe : about1.ripe theMethod args0 below0 = true := by decide +kernel
theorem w_running : about1.status = .running := rfl
set_option maxRecDepth 65536 in
theorem w_room : about1.hasRoom e0.platform room_1 = true :=
  launch0.hasRoom_least _ room_1 (by decide +kernel) (by decide +kernel) (by decide +kernel) (by decide +kernel) (by decide +kernel) (by decide +kernel)
theorem allAtoms_all (ts : List Jvm.Cond) (a : Array Jvm.Value) (st : Jvm.State) : (allAtoms ts).before a st = ts.all (fun c => c.before a st) := by
  induction ts with
  | nil => rfl
  | cons c t ih =>
    show (Jvm.Cond.and c (allAtoms t)).before a st = _
    rw [Jvm.Cond.before_and, ih, List.all_cons]
def words1 : List Jvm.Cond := Jvm.Cond.code x code maxLocals ret :: tables_1
/-- a 'code' word, met by the world's own term for the bytes: nothing is compared byte by byte -/
theorem code_word {y : MethodName} {bytes : ByteArray} {mx : Nat} {rt : Option FieldType} {a : Array Value} {s : State} {m : MethodId} {meth : Method} {c : Code} (h1 : s.methodNamed? y = some m) (h2 : s.vm.method? m = some meth) (h3 : meth.code = some c) (h4 : c.code = bytes)
    (h5 : (c.maxLocals == mx && c.exceptionTable.isEmpty && decide (c.maxStack ≤ mostOperands) && decide (meth.sig.returnType = rt) && !meth.locks && decide (parseMethodDescriptor y.desc = some meth.sig)) = true) : (Jvm.Cond.code y bytes mx rt).before a s = true := by
  simp only [Bool.and_eq_true, beq_iff_eq, Bool.not_eq_true', decide_eq_true_eq] at h5
  obtain ⟨⟨⟨⟨⟨g1, g2⟩, g3⟩, g4⟩, g5⟩, g6⟩ := h5
  simp [Cond.before, Cond.holds, Cond.value, h1, h2, h3, h4, g1, g2, g3, g4, g5, g6]
def isCode : Jvm.Cond → Bool
  | .code _ _ _ _ => true
  | _ => false
theorem all_split {L : List Jvm.Cond} {P : Jvm.Cond → Bool} (h1 : L.all (fun c => isCode c || P c) = true) (h2 : ∀ c ∈ L.filter isCode, P c = true) : L.all P = true := by
  refine List.all_eq_true.mpr fun c hc => ?_
  have h := List.all_eq_true.mp h1 c hc
  rcases Bool.eq_false_or_eq_true (isCode c) with hi | hi
  · exact h2 c (List.mem_filter.mpr ⟨hc, hi⟩)
  · simpa [hi] using h
set_option maxRecDepth 65536 in
theorem w_c0 : (Jvm.Cond.code x code maxLocals ret).before args0 about1 = true := code_word (m := ⟨1, 1⟩) (meth := k1m1) (c := k1c1) (by decide +kernel) rfl rfl rfl (by decide +kernel)
set_option maxRecDepth 65536 in
theorem w_c1 : (Jvm.Cond.code ({ cls := "java/lang/String", name := "<init>", desc := "([C)V" } : Jvm.MethodName) jdk_42_method_3_code (2 : Nat) (Option.none : Option Jvm.ClassFile.FieldType)).before args0 about1 = true := code_word (m := ⟨7, 1⟩) (meth := k7m1) (c := k7c1) (by decide +kernel) rfl rfl rfl (by decide +kernel)
set_option maxRecDepth 65536 in
theorem w_c2 : (Jvm.Cond.code ({ cls := "java/lang/String", name := "<init>", desc := "([CIILjava/lang/Void;)V" } : Jvm.MethodName) jdk_42_method_149_code (6 : Nat) (Option.none : Option Jvm.ClassFile.FieldType)).before args0 about1 = true := code_word (m := ⟨7, 7⟩) (meth := k7m7) (c := k7c7) (by decide +kernel) rfl rfl rfl (by decide +kernel)
set_option maxRecDepth 65536 in
theorem w_c3 : (Jvm.Cond.code ({ cls := "java/lang/Object", name := "<init>", desc := "()V" } : Jvm.MethodName) object_method_1_code (1 : Nat) (Option.none : Option Jvm.ClassFile.FieldType)).before args0 about1 = true := code_word (m := ⟨0, 0⟩) (meth := k0m0) (c := k0c0) (by decide +kernel) rfl rfl rfl (by decide +kernel)
set_option maxRecDepth 65536 in
theorem w_c4 : (Jvm.Cond.code ({ cls := "com/example/permitd/permitd/http/Headers", name := "isToken", desc := "(Ljava/lang/String;)Z" } : Jvm.MethodName) prog_21_method_2_code (4 : Nat) (Option.some Jvm.ClassFile.FieldType.boolean)).before args0 about1 = true := code_word (m := ⟨8, 1⟩) (meth := k8m1) (c := k8c1) (by decide +kernel) rfl rfl rfl (by decide +kernel)
set_option maxRecDepth 65536 in
theorem w_c5 : (Jvm.Cond.code ({ cls := "java/lang/String", name := "isEmpty", desc := "()Z" } : Jvm.MethodName) jdk_42_method_55_code (1 : Nat) (Option.some Jvm.ClassFile.FieldType.boolean)).before args0 about1 = true := code_word (m := ⟨7, 3⟩) (meth := k7m3) (c := k7c3) (by decide +kernel) rfl rfl rfl (by decide +kernel)
set_option maxRecDepth 65536 in
theorem w_c6 : (Jvm.Cond.code ({ cls := "com/example/permitd/permitd/http/HeadersIsTokenPinLaw", name := "tok", desc := "(C)Z" } : Jvm.MethodName) method_3_code (2 : Nat) (Option.some Jvm.ClassFile.FieldType.boolean)).before args0 about1 = true := code_word (m := ⟨1, 2⟩) (meth := k1m2) (c := k1c2) (by decide +kernel) rfl rfl rfl (by decide +kernel)
set_option maxRecDepth 65536 in
theorem w_c7 : (Jvm.Cond.code ({ cls := "java/lang/StringUTF16", name := "compress", desc := "([CII)[B" } : Jvm.MethodName) jdk_52_method_16_code (6 : Nat) (Option.some (Jvm.ClassFile.FieldType.array Jvm.ClassFile.FieldType.byte))).before args0 about1 = true := code_word (m := ⟨9, 8⟩) (meth := k9m8) (c := k9c8) (by decide +kernel) rfl rfl rfl (by decide +kernel)
set_option maxRecDepth 65536 in
theorem w_c8 : (Jvm.Cond.code ({ cls := "java/lang/StringUTF16", name := "compress", desc := "([CI[BII)I" } : Jvm.MethodName) jdk_52_method_21_code (7 : Nat) (Option.some Jvm.ClassFile.FieldType.int)).before args0 about1 = true := code_word (m := ⟨9, 9⟩) (meth := k9m9) (c := k9c9) (by decide +kernel) rfl rfl rfl (by decide +kernel)
set_option maxRecDepth 65536 in
theorem w_c9 : (Jvm.Cond.code ({ cls := "java/lang/StringUTF16", name := "coderFromArrayLen", desc := "([BI)B" } : Jvm.MethodName) jdk_52_method_15_code (2 : Nat) (Option.some Jvm.ClassFile.FieldType.byte)).before args0 about1 = true := code_word (m := ⟨9, 7⟩) (meth := k9m7) (c := k9c7) (by decide +kernel) rfl rfl rfl (by decide +kernel)
set_option maxRecDepth 65536 in
theorem w_c10 : (Jvm.Cond.code ({ cls := "java/lang/String", name := "length", desc := "()I" } : Jvm.MethodName) jdk_42_method_54_code (1 : Nat) (Option.some Jvm.ClassFile.FieldType.int)).before args0 about1 = true := code_word (m := ⟨7, 2⟩) (meth := k7m2) (c := k7c2) (by decide +kernel) rfl rfl rfl (by decide +kernel)
set_option maxRecDepth 65536 in
theorem w_c11 : (Jvm.Cond.code ({ cls := "java/lang/String", name := "coder", desc := "()B" } : Jvm.MethodName) jdk_42_method_152_code (1 : Nat) (Option.some Jvm.ClassFile.FieldType.byte)).before args0 about1 = true := code_word (m := ⟨7, 8⟩) (meth := k7m8) (c := k7c8) (by decide +kernel) rfl rfl rfl (by decide +kernel)
set_option maxRecDepth 65536 in
theorem w_c12 : (Jvm.Cond.code ({ cls := "java/lang/String", name := "charAt", desc := "(I)C" } : Jvm.MethodName) jdk_42_method_56_code (2 : Nat) (Option.some Jvm.ClassFile.FieldType.char)).before args0 about1 = true := code_word (m := ⟨7, 4⟩) (meth := k7m4) (c := k7c4) (by decide +kernel) rfl rfl rfl (by decide +kernel)
set_option maxRecDepth 65536 in
theorem w_c13 : (Jvm.Cond.code ({ cls := "java/lang/String", name := "isLatin1", desc := "()Z" } : Jvm.MethodName) jdk_42_method_154_code (1 : Nat) (Option.some Jvm.ClassFile.FieldType.boolean)).before args0 about1 = true := code_word (m := ⟨7, 9⟩) (meth := k7m9) (c := k7c9) (by decide +kernel) rfl rfl rfl (by decide +kernel)
set_option maxRecDepth 65536 in
theorem w_c14 : (Jvm.Cond.code ({ cls := "java/lang/StringLatin1", name := "charAt", desc := "([BI)C" } : Jvm.MethodName) jdk_43_method_2_code (2 : Nat) (Option.some Jvm.ClassFile.FieldType.char)).before args0 about1 = true := code_word (m := ⟨10, 1⟩) (meth := k10m1) (c := k10c1) (by decide +kernel) rfl rfl rfl (by decide +kernel)
set_option maxRecDepth 65536 in
theorem w_c15 : (Jvm.Cond.code ({ cls := "java/lang/String", name := "checkIndex", desc := "(II)V" } : Jvm.MethodName) jdk_42_method_155_code (2 : Nat) (Option.none : Option Jvm.ClassFile.FieldType)).before args0 about1 = true := code_word (m := ⟨7, 10⟩) (meth := k7m10) (c := k7c10) (by decide +kernel) rfl rfl rfl (by decide +kernel)
set_option maxRecDepth 65536 in
theorem w_c16 : (Jvm.Cond.code ({ cls := "jdk/internal/util/Preconditions", name := "checkIndex", desc := "(IILjava/util/function/BiFunction;)I" } : Jvm.MethodName) jdk_41_method_11_code (3 : Nat) (Option.some Jvm.ClassFile.FieldType.int)).before args0 about1 = true := code_word (m := ⟨11, 1⟩) (meth := k11m1) (c := k11c1) (by decide +kernel) rfl rfl rfl (by decide +kernel)
set_option maxRecDepth 65536 in
theorem w_c17 : (Jvm.Cond.code ({ cls := "java/lang/String", name := "indexOf", desc := "(I)I" } : Jvm.MethodName) jdk_42_method_79_code (2 : Nat) (Option.some Jvm.ClassFile.FieldType.int)).before args0 about1 = true := code_word (m := ⟨7, 5⟩) (meth := k7m5) (c := k7c5) (by decide +kernel) rfl rfl rfl (by decide +kernel)
set_option maxRecDepth 65536 in
theorem w_c18 : (Jvm.Cond.code ({ cls := "java/lang/String", name := "indexOf", desc := "(II)I" } : Jvm.MethodName) jdk_42_method_80_code (3 : Nat) (Option.some Jvm.ClassFile.FieldType.int)).before args0 about1 = true := code_word (m := ⟨7, 6⟩) (meth := k7m6) (c := k7c6) (by decide +kernel) rfl rfl rfl (by decide +kernel)
set_option maxRecDepth 65536 in
theorem w_c19 : (Jvm.Cond.code ({ cls := "java/lang/StringLatin1", name := "indexOf", desc := "([BIII)I" } : Jvm.MethodName) jdk_43_method_22_code (4 : Nat) (Option.some Jvm.ClassFile.FieldType.int)).before args0 about1 = true := code_word (m := ⟨10, 3⟩) (meth := k10m3) (c := k10c3) (by decide +kernel) rfl rfl rfl (by decide +kernel)
set_option maxRecDepth 65536 in
theorem w_c20 : (Jvm.Cond.code ({ cls := "java/lang/StringLatin1", name := "canEncode", desc := "(I)Z" } : Jvm.MethodName) jdk_43_method_4_code (1 : Nat) (Option.some Jvm.ClassFile.FieldType.boolean)).before args0 about1 = true := code_word (m := ⟨10, 2⟩) (meth := k10m2) (c := k10c2) (by decide +kernel) rfl rfl rfl (by decide +kernel)
set_option maxRecDepth 65536 in
theorem w_c21 : (Jvm.Cond.code ({ cls := "java/lang/Math", name := "max", desc := "(II)I" } : Jvm.MethodName) jdk_29_method_65_code (2 : Nat) (Option.some Jvm.ClassFile.FieldType.int)).before args0 about1 = true := code_word (m := ⟨12, 1⟩) (meth := k12m1) (c := k12c1) (by decide +kernel) rfl rfl rfl (by decide +kernel)
set_option maxRecDepth 65536 in
theorem w_c22 : (Jvm.Cond.code ({ cls := "java/lang/Math", name := "min", desc := "(II)I" } : Jvm.MethodName) jdk_29_method_69_code (2 : Nat) (Option.some Jvm.ClassFile.FieldType.int)).before args0 about1 = true := code_word (m := ⟨12, 2⟩) (meth := k12m2) (c := k12c2) (by decide +kernel) rfl rfl rfl (by decide +kernel)
set_option maxRecDepth 65536 in
theorem w_c23 : (Jvm.Cond.code ({ cls := "java/lang/StringLatin1", name := "indexOfChar", desc := "([BIII)I" } : Jvm.MethodName) jdk_43_method_23_code (6 : Nat) (Option.some Jvm.ClassFile.FieldType.int)).before args0 about1 = true := code_word (m := ⟨10, 4⟩) (meth := k10m4) (c := k10c4) (by decide +kernel) rfl rfl rfl (by decide +kernel)
set_option maxRecDepth 65536 in
theorem w_c24 : (Jvm.Cond.code ({ cls := "java/lang/StringUTF16", name := "toBytes", desc := "([CII)[B" } : Jvm.MethodName) jdk_52_method_14_code (5 : Nat) (Option.some (Jvm.ClassFile.FieldType.array Jvm.ClassFile.FieldType.byte))).before args0 about1 = true := code_word (m := ⟨9, 6⟩) (meth := k9m6) (c := k9c6) (by decide +kernel) rfl rfl rfl (by decide +kernel)
set_option maxRecDepth 65536 in
theorem w_c25 : (Jvm.Cond.code ({ cls := "java/lang/StringUTF16", name := "newBytesFor", desc := "(I)[B" } : Jvm.MethodName) jdk_52_method_2_code (1 : Nat) (Option.some (Jvm.ClassFile.FieldType.array Jvm.ClassFile.FieldType.byte))).before args0 about1 = true := code_word (m := ⟨9, 1⟩) (meth := k9m1) (c := k9c1) (by decide +kernel) rfl rfl rfl (by decide +kernel)
set_option maxRecDepth 65536 in
theorem w_c26 : (Jvm.Cond.code ({ cls := "java/lang/StringUTF16", name := "newBytesLength", desc := "(I)I" } : Jvm.MethodName) jdk_52_method_3_code (1 : Nat) (Option.some Jvm.ClassFile.FieldType.int)).before args0 about1 = true := code_word (m := ⟨9, 2⟩) (meth := k9m2) (c := k9c2) (by decide +kernel) rfl rfl rfl (by decide +kernel)
set_option maxRecDepth 65536 in
theorem w_c27 : (Jvm.Cond.code ({ cls := "java/lang/StringUTF16", name := "putChar", desc := "([BII)V" } : Jvm.MethodName) jdk_52_method_4_code (3 : Nat) (Option.none : Option Jvm.ClassFile.FieldType)).before args0 about1 = true := code_word (m := ⟨9, 3⟩) (meth := k9m3) (c := k9c3) (by decide +kernel) rfl rfl rfl (by decide +kernel)
set_option maxRecDepth 65536 in
theorem w_c28 : (Jvm.Cond.code ({ cls := "java/lang/StringUTF16", name := "getChar", desc := "([BI)C" } : Jvm.MethodName) jdk_52_method_5_code (2 : Nat) (Option.some Jvm.ClassFile.FieldType.char)).before args0 about1 = true := code_word (m := ⟨9, 4⟩) (meth := k9m4) (c := k9c4) (by decide +kernel) rfl rfl rfl (by decide +kernel)
set_option maxRecDepth 65536 in
theorem w_c29 : (Jvm.Cond.code ({ cls := "java/lang/StringUTF16", name := "charAt", desc := "([BI)C" } : Jvm.MethodName) jdk_52_method_83_code (2 : Nat) (Option.some Jvm.ClassFile.FieldType.char)).before args0 about1 = true := code_word (m := ⟨9, 10⟩) (meth := k9m10) (c := k9c10) (by decide +kernel) rfl rfl rfl (by decide +kernel)
set_option maxRecDepth 65536 in
theorem w_c30 : (Jvm.Cond.code ({ cls := "java/lang/StringUTF16", name := "checkIndex", desc := "(I[B)V" } : Jvm.MethodName) jdk_52_method_91_code (2 : Nat) (Option.none : Option Jvm.ClassFile.FieldType)).before args0 about1 = true := code_word (m := ⟨9, 11⟩) (meth := k9m11) (c := k9c11) (by decide +kernel) rfl rfl rfl (by decide +kernel)
set_option maxRecDepth 65536 in
theorem w_c31 : (Jvm.Cond.code ({ cls := "java/lang/StringUTF16", name := "length", desc := "([B)I" } : Jvm.MethodName) jdk_52_method_6_code (1 : Nat) (Option.some Jvm.ClassFile.FieldType.int)).before args0 about1 = true := code_word (m := ⟨9, 5⟩) (meth := k9m5) (c := k9c5) (by decide +kernel) rfl rfl rfl (by decide +kernel)
def codes1 : List Jvm.Cond := [Jvm.Cond.code x code maxLocals ret, Jvm.Cond.code ({ cls := "java/lang/String", name := "<init>", desc := "([C)V" } : Jvm.MethodName) jdk_42_method_3_code (2 : Nat) (Option.none : Option Jvm.ClassFile.FieldType), Jvm.Cond.code ({ cls := "java/lang/String", name := "<init>", desc := "([CIILjava/lang/Void;)V" } : Jvm.MethodName) jdk_42_method_149_code (6 : Nat) (Option.none : Option Jvm.ClassFile.FieldType), Jvm.Cond.code ({ cls := "java/lang/Object", name := "<init>", desc := "()V" } : Jvm.MethodName) object_method_1_code (1 : Nat) (Option.none : Option Jvm.ClassFile.FieldType), Jvm.Cond.code ({ cls := "com/example/permitd/permitd/http/Headers", name := "isToken", desc := "(Ljava/lang/String;)Z" } : Jvm.MethodName) prog_21_method_2_code (4 : Nat) (Option.some Jvm.ClassFile.FieldType.boolean), Jvm.Cond.code ({ cls := "java/lang/String", name := "isEmpty", desc := "()Z" } : Jvm.MethodName) jdk_42_method_55_code (1 : Nat) (Option.some Jvm.ClassFile.FieldType.boolean), Jvm.Cond.code ({ cls := "com/example/permitd/permitd/http/HeadersIsTokenPinLaw", name := "tok", desc := "(C)Z" } : Jvm.MethodName) method_3_code (2 : Nat) (Option.some Jvm.ClassFile.FieldType.boolean), Jvm.Cond.code ({ cls := "java/lang/StringUTF16", name := "compress", desc := "([CII)[B" } : Jvm.MethodName) jdk_52_method_16_code (6 : Nat) (Option.some (Jvm.ClassFile.FieldType.array Jvm.ClassFile.FieldType.byte)), Jvm.Cond.code ({ cls := "java/lang/StringUTF16", name := "compress", desc := "([CI[BII)I" } : Jvm.MethodName) jdk_52_method_21_code (7 : Nat) (Option.some Jvm.ClassFile.FieldType.int), Jvm.Cond.code ({ cls := "java/lang/StringUTF16", name := "coderFromArrayLen", desc := "([BI)B" } : Jvm.MethodName) jdk_52_method_15_code (2 : Nat) (Option.some Jvm.ClassFile.FieldType.byte), Jvm.Cond.code ({ cls := "java/lang/String", name := "length", desc := "()I" } : Jvm.MethodName) jdk_42_method_54_code (1 : Nat) (Option.some Jvm.ClassFile.FieldType.int), Jvm.Cond.code ({ cls := "java/lang/String", name := "coder", desc := "()B" } : Jvm.MethodName) jdk_42_method_152_code (1 : Nat) (Option.some Jvm.ClassFile.FieldType.byte), Jvm.Cond.code ({ cls := "java/lang/String", name := "charAt", desc := "(I)C" } : Jvm.MethodName) jdk_42_method_56_code (2 : Nat) (Option.some Jvm.ClassFile.FieldType.char), Jvm.Cond.code ({ cls := "java/lang/String", name := "isLatin1", desc := "()Z" } : Jvm.MethodName) jdk_42_method_154_code (1 : Nat) (Option.some Jvm.ClassFile.FieldType.boolean), Jvm.Cond.code ({ cls := "java/lang/StringLatin1", name := "charAt", desc := "([BI)C" } : Jvm.MethodName) jdk_43_method_2_code (2 : Nat) (Option.some Jvm.ClassFile.FieldType.char), Jvm.Cond.code ({ cls := "java/lang/String", name := "checkIndex", desc := "(II)V" } : Jvm.MethodName) jdk_42_method_155_code (2 : Nat) (Option.none : Option Jvm.ClassFile.FieldType), Jvm.Cond.code ({ cls := "jdk/internal/util/Preconditions", name := "checkIndex", desc := "(IILjava/util/function/BiFunction;)I" } : Jvm.MethodName) jdk_41_method_11_code (3 : Nat) (Option.some Jvm.ClassFile.FieldType.int), Jvm.Cond.code ({ cls := "java/lang/String", name := "indexOf", desc := "(I)I" } : Jvm.MethodName) jdk_42_method_79_code (2 : Nat) (Option.some Jvm.ClassFile.FieldType.int), Jvm.Cond.code ({ cls := "java/lang/String", name := "indexOf", desc := "(II)I" } : Jvm.MethodName) jdk_42_method_80_code (3 : Nat) (Option.some Jvm.ClassFile.FieldType.int), Jvm.Cond.code ({ cls := "java/lang/StringLatin1", name := "indexOf", desc := "([BIII)I" } : Jvm.MethodName) jdk_43_method_22_code (4 : Nat) (Option.some Jvm.ClassFile.FieldType.int), Jvm.Cond.code ({ cls := "java/lang/StringLatin1", name := "canEncode", desc := "(I)Z" } : Jvm.MethodName) jdk_43_method_4_code (1 : Nat) (Option.some Jvm.ClassFile.FieldType.boolean), Jvm.Cond.code ({ cls := "java/lang/Math", name := "max", desc := "(II)I" } : Jvm.MethodName) jdk_29_method_65_code (2 : Nat) (Option.some Jvm.ClassFile.FieldType.int), Jvm.Cond.code ({ cls := "java/lang/Math", name := "min", desc := "(II)I" } : Jvm.MethodName) jdk_29_method_69_code (2 : Nat) (Option.some Jvm.ClassFile.FieldType.int), Jvm.Cond.code ({ cls := "java/lang/StringLatin1", name := "indexOfChar", desc := "([BIII)I" } : Jvm.MethodName) jdk_43_method_23_code (6 : Nat) (Option.some Jvm.ClassFile.FieldType.int), Jvm.Cond.code ({ cls := "java/lang/StringUTF16", name := "toBytes", desc := "([CII)[B" } : Jvm.MethodName) jdk_52_method_14_code (5 : Nat) (Option.some (Jvm.ClassFile.FieldType.array Jvm.ClassFile.FieldType.byte)), Jvm.Cond.code ({ cls := "java/lang/StringUTF16", name := "newBytesFor", desc := "(I)[B" } : Jvm.MethodName) jdk_52_method_2_code (1 : Nat) (Option.some (Jvm.ClassFile.FieldType.array Jvm.ClassFile.FieldType.byte)), Jvm.Cond.code ({ cls := "java/lang/StringUTF16", name := "newBytesLength", desc := "(I)I" } : Jvm.MethodName) jdk_52_method_3_code (1 : Nat) (Option.some Jvm.ClassFile.FieldType.int), Jvm.Cond.code ({ cls := "java/lang/StringUTF16", name := "putChar", desc := "([BII)V" } : Jvm.MethodName) jdk_52_method_4_code (3 : Nat) (Option.none : Option Jvm.ClassFile.FieldType), Jvm.Cond.code ({ cls := "java/lang/StringUTF16", name := "getChar", desc := "([BI)C" } : Jvm.MethodName) jdk_52_method_5_code (2 : Nat) (Option.some Jvm.ClassFile.FieldType.char), Jvm.Cond.code ({ cls := "java/lang/StringUTF16", name := "charAt", desc := "([BI)C" } : Jvm.MethodName) jdk_52_method_83_code (2 : Nat) (Option.some Jvm.ClassFile.FieldType.char), Jvm.Cond.code ({ cls := "java/lang/StringUTF16", name := "checkIndex", desc := "(I[B)V" } : Jvm.MethodName) jdk_52_method_91_code (2 : Nat) (Option.none : Option Jvm.ClassFile.FieldType), Jvm.Cond.code ({ cls := "java/lang/StringUTF16", name := "length", desc := "([B)I" } : Jvm.MethodName) jdk_52_method_6_code (1 : Nat) (Option.some Jvm.ClassFile.FieldType.int)]
set_option maxRecDepth 65536 in
theorem codes_eq : words1.filter isCode = codes1 := rfl
theorem w_codes : ∀ c ∈ words1.filter isCode, c.before args0 about1 = true := by
  rw [codes_eq]
  intro c hc
  simp only [codes1, List.mem_cons, List.not_mem_nil, or_false] at hc
  rcases hc with rfl | rfl | rfl | rfl | rfl | rfl | rfl | rfl | rfl | rfl | rfl | rfl | rfl | rfl | rfl | rfl | rfl | rfl | rfl | rfl | rfl | rfl | rfl | rfl | rfl | rfl | rfl | rfl | rfl | rfl | rfl | rfl
  · exact w_c0
  · exact w_c1
  · exact w_c2
  · exact w_c3
  · exact w_c4
  · exact w_c5
  · exact w_c6
  · exact w_c7
  · exact w_c8
  · exact w_c9
  · exact w_c10
  · exact w_c11
  · exact w_c12
  · exact w_c13
  · exact w_c14
  · exact w_c15
  · exact w_c16
  · exact w_c17
  · exact w_c18
  · exact w_c19
  · exact w_c20
  · exact w_c21
  · exact w_c22
  · exact w_c23
  · exact w_c24
  · exact w_c25
  · exact w_c26
  · exact w_c27
  · exact w_c28
  · exact w_c29
  · exact w_c30
  · exact w_c31
set_option maxRecDepth 65536 in
theorem w_t1 : (words1.take 24).all (fun c => isCode c || c.before args0 about1) = true := by decide +kernel
set_option maxRecDepth 65536 in
theorem w_t2 : ((words1.drop 24).take 24).all (fun c => isCode c || c.before args0 about1) = true := by decide +kernel
set_option maxRecDepth 65536 in
theorem w_t3 : (((words1.drop 24).drop 24).take 24).all (fun c => isCode c || c.before args0 about1) = true := by decide +kernel
set_option maxRecDepth 65536 in
theorem w_t4 : ((((words1.drop 24).drop 24).drop 24).take 24).all (fun c => isCode c || c.before args0 about1) = true := by decide +kernel
set_option maxRecDepth 65536 in
theorem w_t5 : (((((words1.drop 24).drop 24).drop 24).drop 24).take 24).all (fun c => isCode c || c.before args0 about1) = true := by decide +kernel
set_option maxRecDepth 65536 in
theorem w_t6 : (((((words1.drop 24).drop 24).drop 24).drop 24).drop 24).all (fun c => isCode c || c.before args0 about1) = true := by decide +kernel
theorem w_tables : (allAtoms (Jvm.Cond.code x code maxLocals ret :: tables_1)).before args0 about1 = true := by
  rw [allAtoms_all]
  show words1.all (fun c => c.before args0 about1) = true
  refine all_split ?_ w_codes
  rw [← List.take_append_drop 24 words1, List.all_append, w_t1, ← List.take_append_drop 24 (words1.drop 24), List.all_append, w_t2, ← List.take_append_drop 24 ((words1.drop 24).drop 24), List.all_append, w_t3, ← List.take_append_drop 24 (((words1.drop 24).drop 24).drop 24), List.all_append, w_t4, ← List.take_append_drop 24 ((((words1.drop 24).drop 24).drop 24).drop 24), List.all_append, w_t5, w_t6]
  rfl
set_option maxRecDepth 65536 in
theorem w_rest : rest_1_c.before args0 about1 = true := by decide +kernel
set_option maxRecDepth 65536 in
theorem w_case : (Jvm.Cond.and given_1 narrow_1).before args0 about1 = true := by decide +kernel
set_option maxRecDepth 65536 in
theorem w_consts : constsHeld consts_1 about1 := Jvm.Lit.constsHeldB_iff.mp (by decide +kernel)
theorem w_applies : (headSpec (Jvm.Cond.code x code maxLocals ret :: tables_1) room_1).applies x e0.platform about1 = true :=
  (Spec.applies_iff w_frames).mpr ⟨w_running, w_runnable, w_alone, w_named, w_hears, w_ripe, w_room, w_tables⟩
theorem atStart : AtStart classFile x code maxLocals ret World_1 tables_1 room_1 Calls_1 rest_1 Pre_1 launch0 p0 e0 about1 theMethod args0 below0 :=
  ⟨lists_1, trivial, launch0.admits_env _ _ _, launch0.least_env, fairChoices_fair.cas, fairChoices_fair.clock, w_frames, w_args, w_heap, w_applies, ⟨w_consts, trivial⟩, w_rest, w_case⟩
end start1
theorem witness_1 : WitnessClaimed_1 := ⟨start1.p0, start1.e0, start1.about1, start1.theMethod, start1.args0, start1.below0, start1.atStart⟩
end Jvm.Pilot.@@N@@
